/- The walk of the reference's Less. Conditions: lengths as stated. -/
import Derived.Test.YtmonokfibldghaaSorted
import Derived.Test.YtmonokfibldghaaPairs
import Derived.Deep.RegionHeld3
namespace Go.Proofs.Ytmonokfibldghaa
open Go.RowKit Go.Maps Pl

/-- One pair less what a list has of its register. -/
def less1 (b : PL) (p : Nat × Nat) : Nat × Nat := (p.1, andn p.2 (hasm b p.1))
theorem andNot_u16 (a m : Nat) (ha : a < 65536) (hm : m < 65536) : bits .andNot .u16 (a : Int) (m : Int) = ((andn a m : Nat) : Int) := by
  rw [u16_andNot_nat a m ha hm]
  congr 1
  refine Nat.eq_of_testBit_eq fun j => ?_
  rw [andn_bit, Nat.testBit_and, show 65535 - m = 2 ^ 16 - (m + 1) by omega, Nat.testBit_two_pow_sub_succ (show m < 2 ^ 16 by omega)]
  by_cases hj : j < 16
  · simp [hj]
  · have : a.testBit j = false := Nat.testBit_lt_two_pow (Nat.lt_of_lt_of_le (show a < 2 ^ 16 by omega) (Nat.pow_le_pow_right (by decide) (by omega)))
    simp [this]

theorem RowP.drew {w : World} {B : Nat} {A : Option Addr} {l : PL} (h : RowP w B A l) : RowP w.drew B A l := h
theorem keep_grown {w2 w3 : World} {o : Obj} {row : Option Nat} {b k : Nat} {v : Value} (h : w2.cell? ⟨b, k, none⟩ = some v) (hb : b < w2.heap.size) (g1 : (w2.alloc o).grownBy w3 row) (hne : some b ≠ row) : w3.cell? ⟨b, k, none⟩ = some v :=
  g1.cell ((World.cell?_alloc_lt w2 o ⟨b, k, none⟩ hb).trans h) hne
theorem OwnP.base {e : TypeId} {w : World} {base base' : Nat} {v : Value} {l : PL} (h : OwnP e w base v l) (hb : base' ≤ base) : OwnP e w base' v l := by
  refine ⟨h.1, ?_⟩
  rcases h.2 with h | ⟨g, cap, cur, h1, h2, h3⟩
  · exact .inl h
  · exact .inr ⟨g, cap, cur, h1, by omega, h3⟩
theorem row_one (w : World) (e : TypeId) (i x : Nat) : RowP (w.alloc (.cells #[.int .u32 i, .int .u16 x] e)) (w.heap.size + 1) (some ⟨w.heap.size, 0, none⟩) [(i, x)] := fun _ => by
  refine ⟨_, 0, rfl, by omega, fun k p hp => ?_⟩
  cases k with
  | zero => simp at hp; subst hp; simp
  | succ k => simp at hp

set_option maxHeartbeats 1000000 in
set_option maxRecDepth 100000 in
theorem less_any (B : Nat) (A : Option Addr) (n c : Nat) (a : PL) (A' : Option Addr) (n' c' : Nat) (b : PL) (w : World) (hr : RowP w B A a) (hr' : RowP w B A' b) (hB : B ≤ w.heap.size)
    (hln : a.length = n) (hn : n < 2147483648) (ha : Bd a) (hln' : b.length = n') (hn' : n' < 2147483648) (hb : Bd b) :
    Calls Try.prog 16 #[.slice A n c, .slice A' n' c'] w fun e w' => ∃ v, e = .returned v ∧ OwnP 46 w' w.heap.size v (lessL a b) ∧ Below w.heap.size w w' := by
  go_enter Try.func16, Try.ntmps16
  go_wp2_with fail
  refine (sorted_any B A n c a _ (hr.alloc _ hB) (by simp; omega) hln hn ha).mono ?_
  rintro e w1 ⟨v, rfl, hv, hb1⟩
  simp only [World.size_alloc] at hv hb1
  obtain ⟨s, hs⟩ : ∃ s, s = sortedL a := ⟨_, rfl⟩
  have HSL := Lib.hid (show lessM a b = s.map (less1 b) by rw [hs]; rfl)
  have hsb : Bd s := by rw [hs]; exact (ok_sortedL ha).2.2
  have hsl : s.length ≤ n := by rw [hs, ← hln]; exact length_sortedL a
  rw [← hs] at hv
  clear hs
  obtain ⟨Av, cv, hev, hrv⟩ := hv.form
  have hz1 := hb1.size
  simp only [World.size_alloc] at hz1
  have hbel : Below w.heap.size w w1 := ((Below.refl _ _).alloc (Nat.le_refl _) _).trans (hb1.mono (by omega))
  have hout : OwnP 46 w1 w.heap.size (.slice (some ⟨w.heap.size, 0, none⟩) 0 0) [] := by
    have h0 : OwnP 46 (w.alloc (.cells #[] 46)) w.heap.size (.slice (some ⟨w.heap.size, 0, none⟩) 0 0) [] := World.ownsRow_lit w #[] 0 (Nat.le_refl _) (by decide) rfl
    exact h0.below (hb1.mono (by simp))
  subst hev
  go_wp2_with fail
  go_loopw [5, 12] (fun u i wr => ∃ k : Nat, k ≤ s.length ∧ i = .int .i64 k ∧ OwnP 46 wr w.heap.size u ((s.take k).map (less1 b)) ∧ OwnP 46 wr (w.heap.size + 1) (.slice Av s.length cv) s ∧ ((Value.slice Av s.length cv).ownBlock = none ∨ (Value.slice Av s.length cv).ownBlock ≠ u.ownBlock) ∧ Below w.heap.size w wr)
    (fun _ i _ => s.length - (intOf i).toNat)
  case atStart =>
    refine ⟨0, Nat.zero_le _, rfl, hout, hv, ?_, hbel⟩
    cases h : (Value.slice Av s.length cv).ownBlock with
    | none => exact .inl rfl
    | some g => exact .inr (fun e => by have := (World.ownsRow.lt hv g h).1; simp [Value.ownBlock] at e; omega)
  case round =>
    obtain ⟨k, hk, rfl, ho, hvv, hne, hnx⟩ := hrel
    by_cases hlt : k < s.length
    · obtain ⟨p, hp⟩ : ∃ p, s[k]? = some p := ⟨s[k]'(by omega), List.getElem?_eq_getElem (by omega)⟩
      have hpb := hsb p (List.mem_of_getElem? hp)
      obtain ⟨Av', cv', hev', hrv'⟩ := hvv.form
      cases hev'
      obtain ⟨blk, off, rfl, hblk, hcs⟩ := hrv' (by omega)
      have hc := hcs k p hp
      have hc0 := hc.1
      have hc1 := hc.2
      have HT := Lib.hid (take_snoc hp)
      have hhl := hasm_lt hb p.1
      have hA := andNot_u16 p.2 (hasm b p.1) hpb.2 hhl
      clear hcs hc hrv' hp hrv hr
      obtain ⟨p1, p2⟩ := p
      have hrb := ((hr'.below (hnx.mono hB)).alloc (.cells #[.int .u32 p1, .int .u16 p2] 46) (Nat.le_trans hB hnx.size))
      have hz := hnx.size
      have hl1 : ((s.take k).map (less1 b)).length = k := by simp; omega
      have HL1 := Lib.hid hl1
      clear hl1
      have HA2 : ∀ w2 : World, OwnP 46 w2 w.heap.size u5 ((s.take k).map (less1 b)) → OwnP 46 (w2.alloc (.cells #[.int .u32 p1, .int .u16 ((andn p2 (hasm b p1) : Nat) : Int)] 46)) w.heap.size u5 ((s.take k).map (less1 b)) := fun w2 h => h.alloc _
      have HL2 : ((s.take k).map (less1 b)).length < 4294967296 := by rw [HL1.out]; omega
      have HNE := Lib.hid (show some wr.heap.size ≠ u5.ownBlock from fun e => by have := (World.ownsRow.lt ho _ e.symm).2; omega)
      have HA2' := Lib.hid HA2
      have HL2' := Lib.hid HL2
      clear HA2 HL2
      go_wp2_with fail
      go_region_held3 (fun w' => w'.cell? ⟨wr.heap.size, 0, none⟩ = some (.int .u32 p1) ∧ w'.cell? ⟨wr.heap.size, 1, none⟩ = some (.int .u16 p2))
        (go_keep)
        ((first
          | (go_at_call 21; refine (has_any B A' n' c' b p1 (wr.alloc (.cells #[.int .u32 p1, .int .u16 p2] 46)).drew hrb.drew (by simp; omega) hln' hn' hb).mono ?_; rintro e w2 ⟨rfl, hb2⟩; have hb2' : Below (wr.alloc (.cells #[.int .u32 p1, .int .u16 p2] 46)).heap.size (wr.alloc (.cells #[.int .u32 p1, .int .u16 p2] 46)) w2 := ⟨hb2.os, hb2.tape, hb2.output, hb2.size, hb2.block⟩; have ho2 := (ho.alloc (.cells #[.int .u32 p1, .int .u16 p2] 46)).below hb2'; have hz2 := hb2'.size; have hlt2 : wr.heap.size < w2.heap.size := (by simp at hz2; omega); have hc20 := (hb2'.cell (p := ⟨wr.heap.size, 0, none⟩) (by simp)).trans (new_cells wr p1 p2 46).1; have hc21 := (hb2'.cell (p := ⟨wr.heap.size, 1, none⟩) (by simp)).trans (new_cells wr p1 p2 46).2)
          | (have HB := row_one w2 46 p1 (andn p2 (hasm b p1)); have HC := HA2'.out w2 ho2; have HZ : w.heap.size ≤ (w2.alloc (.cells #[.int .u32 p1, .int .u16 ((andn p2 (hasm b p1) : Nat) : Int)] 46)).heap.size := (by simp at hz2 ⊢; omega); refine step_appP _ rfl (.tmp 16) (.tmp 27) 31 46 rfl Try.underlying31 info46 w.heap.size u5 _ rfl HC (w2.heap.size + 1) (some ⟨w2.heap.size, 0, none⟩) [(p1, andn p2 (hasm b p1))] 1 1 rfl rfl HB (fun h => by cases h) HL2'.out (by simp) HZ ?_; intro v1 w3 h1 g1 ho1 _; have hc30 := keep_grown hc20 hlt2 g1 HNE.out; have hc31 := keep_grown hc21 hlt2 g1 HNE.out)))
      have F1 := Lib.hid (show OwnP 46 w3 w.heap.size v1 ((s.take (k + 1)).map (less1 b)) by rw [HT.out, List.map_append]; exact h1)
      have F2 := Lib.hid ((((hvv.alloc (.cells #[.int .u32 p1, .int .u16 p2] 46)).below hb2').alloc (.cells #[.int .u32 p1, .int .u16 ((andn p2 (hasm b p1) : Nat) : Int)] 46)).kept g1 hne)
      have F3 : Hid ((Value.slice (some ⟨blk, off, none⟩) s.length cv).ownBlock = none ∨ (Value.slice (some ⟨blk, off, none⟩) s.length cv).ownBlock ≠ v1.ownBlock) := Lib.hid (by
        rcases ho1 with h | h
        · rw [h]; exact hne
        · rw [h]; right; simp [Value.ownBlock]; omega)
      have F4 := Lib.hid ((((hnx.alloc hz (.cells #[.int .u32 p1, .int .u16 p2] 46)).trans (hb2'.mono (by simp; omega))).alloc (by simp at hz2; omega) (.cells #[.int .u32 p1, .int .u16 ((andn p2 (hasm b p1) : Nat) : Int)] 46)).grown g1 (by simp at hz2 ⊢; omega) (fun q hq => (World.ownsRow.lt ho q hq).1))
      clear h1 g1 ho1 hc30 hc31 hc20 hc21 hb2 hb2' ho2 hvv hne ho hc0 hc1 hA
      go_wp2
      go_roundw
      case rel => exact ⟨k + 1, by omega, by go_num, F1.out, F2.out, F3.out, F4.out⟩
      case measure => simp [intOf]; omega
    · have hks : k = s.length := by omega
      have hM : OwnP 46 wr w.heap.size u5 (lessM a b) := by rw [HSL.out]; rw [List.take_of_length_le (by omega)] at ho; exact ho
      have hml : (lessM a b).length ≤ n := by rw [HSL.out]; simp; omega
      have HBd := Lib.hid (bd_lessM b ha)
      clear ho hks
      obtain ⟨Ao, co, hoe, hro⟩ := hM.form
      subst hoe
      go_wp2_with fail
      refine (sorted_any wr.heap.size Ao (lessM a b).length co (lessM a b) _ hro (Nat.le_refl _) rfl (by omega) HBd.out).mono ?_
      rintro e w4 ⟨v4, rfl, h4, hb4⟩
      have F1 := Lib.hid (h4.base hnx.size)
      have F2 := Lib.hid (hnx.trans (hb4.mono hnx.size))
      clear h4 hb4
      go_wp2
      go_ret
      exact ⟨_, rfl, F1.out, F2.out⟩

end Go.Proofs.Ytmonokfibldghaa
