/- Walks of the sets' own functions: adding, the set of a list, equality. Conditions: lengths as stated. -/
import Derived.Test.YtmonokfibldghaaChecked
import Derived.Test.YtmonokfibldghaaData
import Derived.WalkKit
import Derived.WalkLawsBesides
import Derived.WalkSpells
import Derived.Maps.RangeWalk
import Derived.Lib.Hide
import Derived.BigQuiet
import Derived.Deep.QuietTactic
namespace Go.Proofs.Ytmonokfibldghaa
open Go.RowKit Go.Maps Pl

theorem law68 : Keyed Try.prog 68 := int_keyed Try.underlying68
theorem law38 : Keyed Try.prog 38 := int_keyed Try.underlying38
theorem zero41 (w : World) : (zeroValue 41).run Try.prog w = .ok (.int .u16 0) w := by kernel_rfl

/-- Block b is a map of keys of type k to parts, which holds L. -/
def IsM (k : TypeId) (w : World) (b n : Nat) (L : PL) : Prop := w.ownsMap (H := Unit) Try.prog k (plainElem Try.prog 41) b n (DL L)

theorem IsM.kept {k : TypeId} {w w' : World} {b n : Nat} {L : PL} {row : Option Nat} (h : IsM k w b n L) (hg : w.grownBy w' row) (hne : some b ≠ row) : IsM k w' b n L := World.ownsMap.kept h hg hne
theorem IsM.alloc {k : TypeId} {w : World} {b n : Nat} {L : PL} (h : IsM k w b n L) (o : Obj) : IsM k (w.alloc o) b n L := World.ownsMap.alloc h o
theorem IsM.mono {k : TypeId} {w : World} {b n n' : Nat} {L : PL} (h : IsM k w b n L) (hn : n ≤ n') : IsM k w b n' L := World.ownsMap.mono h hn
theorem IsM.lt {k : TypeId} {w : World} {b n : Nat} {L : PL} (h : IsM k w b n L) : b < w.heap.size := World.ownsMap.lt h
theorem IsM.len_le {k : TypeId} {w : World} {b n : Nat} {L : PL} (h : IsM k w b n L) : L.length ≤ n := by have := World.ownsMap.size_le h; rwa [size_DL] at this
theorem IsM.below {k : TypeId} {w w' : World} {b n : Nat} {L : PL} (h : IsM k w b n L) (hb : Below w.heap.size w w') : IsM k w' b n L :=
  h.kept (row := none) ⟨hb.os, hb.tape, hb.output, hb.size, fun i hi _ => hb.block i hi⟩ (by simp)

theorem wf_u32 {i : Nat} (h : i < 4294967296) : (Lit.int .u32 (i : Int)).wf = true := by
  simp [Lit.wf, IntKind.min, IntKind.max, IntKind.bits, IntKind.signed]; omega
theorem wf_u16 {i : Nat} (h : i < 65536) : (Lit.int .u16 (i : Int)).wf = true := by
  simp [Lit.wf, IntKind.min, IntKind.max, IntKind.bits, IntKind.signed]; omega

section
variable (w : World) {ops : Array Oper} {rest : List Oper} {o : Oper} {a : Act} {Q : Exit → Act → World → Prop}

theorem look_eq (L : PL) (i : Nat) {c : Int} (h : (DL (H := Unit) L).atKey (.int .u32 i) (.lit (.int .u16 0)) = .lit (.int .u16 c)) : c = (getL L i : Int) := by
  rw [atKey_DL] at h
  split at h
  · cases h; rfl
  · rename_i hh
    have : hasL L i = false := by simpa using hh
    cases h; rw [get_of_not_has this]; rfl

theorem wpList_look (hg : o.guard = none) (m x : Operand) (t k : TypeId) (hop : o.op = Op.lookup t m x false) (K : Keyed Try.prog k) (hk : Try.prog.underlying k = some (.int .u32)) (ht : Try.prog.underlying t = some (.map k 41))
    (b n : Nat) (L : PL) (hm : a.eval m = .map (some b)) (hs : IsM k w b n L) (i : Nat) (hi : i < 4294967296) (hx : a.eval x = .int .u32 i)
    (hK : wpList Try.prog ops Q rest (a.put o.dst (.int .u16 (getL L i))) w) : wpList Try.prog ops Q (o :: rest) a w :=
  wpList_lookup_own_int w hg m x t hop k 41 .u16 K ht Try.underlying41 (zero41 _) b n _ hm hs _ (.int .u32 i) hx (keyOf_int_mk hk (wf_u32 hi)) fun c hat _ => by
    obtain rfl := look_eq L i hat
    exact hK

theorem wpList_look_ok (hg : o.guard = none) (m x : Operand) (t k : TypeId) (hop : o.op = Op.lookup t m x true) (K : Keyed Try.prog k) (hk : Try.prog.underlying k = some (.int .u32)) (ht : Try.prog.underlying t = some (.map k 41))
    (b n : Nat) (L : PL) (hm : a.eval m = .map (some b)) (hs : IsM k w b n L) (i : Nat) (hi : i < 4294967296) (hx : a.eval x = .int .u32 i)
    (hK : wpList Try.prog ops Q rest (a.put o.dst (.tuple #[.int .u16 (getL L i), .bool (hasL L i)])) w) : wpList Try.prog ops Q (o :: rest) a w :=
  wpList_lookup_own_ok_int w hg m x t hop k 41 .u16 K ht Try.underlying41 (zero41 _) b n _ hm hs _ (.int .u32 i) hx (keyOf_int_mk hk (wf_u32 hi)) fun c hat _ => by
    obtain rfl := look_eq L i hat
    rw [has_DL]
    exact hK

theorem wpList_put (hg : o.guard = none) (m x v : Operand) (t k : TypeId) (hop : o.op = Op.mapUpdate t m x v) (K : Keyed Try.prog k) (hk : Try.prog.underlying k = some (.int .u32)) (ht : Try.prog.underlying t = some (.map k 41))
    (b n : Nat) (L : PL) (hm : a.eval m = .map (some b)) (hs : IsM k w b n L) (hn : n < 2147483648) (i : Nat) (hi : i < 4294967296) (hx : a.eval x = .int .u32 i)
    (z : Int) (u : Nat) (hv : a.eval v = .int .u16 z) (hz : z = (u : Int)) (hu : u < 65536)
    (hK : ∀ w', IsM k w' b (n + 1) (putL L i u) → w.grownBy w' (some b) → wpList Try.prog ops Q rest (a.put o.dst undef) w') : wpList Try.prog ops Q (o :: rest) a w :=
  wpList_mapUpdate_own w hg m x v t hop k 41 K ht _ b n _ hm hs (by unfold maxLen; omega) _ _ (.int .u32 i) hx hv (keyOf_int_mk hk (wf_u32 hi)) (.lit (.int .u16 u)) [] (by rw [hz]; exact plainElem_int Try.underlying41 (wf_u16 hu)) fun w' h1 h2 => by
    rw [DL_put] at h1
    exact hK w' h1 h2

theorem wpList_del (hg : o.guard = none) (m x : Operand) (t k : TypeId) (hop : o.op = Op.call { callee := Callee.builtin Builtin.delete, args := #[m, x], argTypes := #[t, k] }) (K : Keyed Try.prog k) (hk : Try.prog.underlying k = some (.int .u32)) (ht : Try.prog.underlying t = some (.map k 41))
    (b n : Nat) (L : PL) (hm : a.eval m = .map (some b)) (hs : IsM k w b n L) (i : Nat) (hi : i < 4294967296) (hx : a.eval x = .int .u32 i)
    (hK : ∀ w', IsM k w' b n (delL L i) → w.grownBy w' (some b) → wpList Try.prog ops Q rest (a.put o.dst (.tuple #[])) w') : wpList Try.prog ops Q (o :: rest) a w :=
  wpList_delete_own w hg m x t k hop 41 K ht _ b n _ hm hs _ (.int .u32 i) hx (keyOf_int_mk hk (wf_u32 hi)) fun w' h1 h2 => by
    rw [DL_del] at h1
    exact hK w' h1 h2.grown

/-- What a look-up in such a map comes to, for a guarded one. -/
theorem run_look {t k : TypeId} {b n : Nat} {L : PL} (hs : IsM k w b n L) (K : Keyed Try.prog k) (hk : Try.prog.underlying k = some (.int .u32)) (ht : Try.prog.underlying t = some (.map k 41)) {i : Nat} (hi : i < 4294967296) :
    (Instr.lookup t (.map (some b)) (.int .u32 i) false).run Try.prog w = .ok (.int .u16 (getL L i)) w := by
  obtain ⟨c, hrun, hat, _⟩ := World.ownsMap.lookup_int hs K ht Try.underlying41 (zero41 _) (keyOf_int_mk hk (wf_u32 hi))
  obtain rfl := look_eq L i hat
  exact hrun

/-- A loop over such a map, under way: 'left' tells what is still to come. -/
def IsR (k : TypeId) (w : World) (b r n : Nat) (L : PL) (left : Lit → Bool) (cnt : Nat) : Prop := w.ranges (H := Unit) Try.prog k (plainElem Try.prog 41) b r n (DL L) left cnt
theorem IsR.kept {k : TypeId} {w w' : World} {b r n cnt : Nat} {L : PL} {left : Lit → Bool} {row : Option Nat} (h : IsR k w b r n L left cnt) (hg : w.grownBy w' row) (hb : some b ≠ row) (hr : some r ≠ row) : IsR k w' b r n L left cnt := World.ranges.kept h hg hb hr
theorem IsR.alloc {k : TypeId} {w : World} {b r n cnt : Nat} {L : PL} {left : Lit → Bool} (h : IsR k w b r n L left cnt) (o : Obj) : IsR k (w.alloc o) b r n L left cnt := World.ranges.alloc h o
theorem IsR.owns {k : TypeId} {w : World} {b r n cnt : Nat} {L : PL} {left : Lit → Bool} (h : IsR k w b r n L left cnt) : IsM k w b n L := World.ranges.owns h

theorem sameKey_u32 (a i : Nat) : (Lit.int .u32 (a : Int)).sameKey (.int .u32 i) = (a == i) := by
  rw [Bool.eq_iff_iff]; simp [Lit.sameKey]; omega

theorem wpList_range (hg : o.guard = none) (m : Operand) (t k : TypeId) (hop : o.op = Op.range t m) (K : Keyed Try.prog k) (ht : Try.prog.underlying t = some (.map k 41)) (b n : Nat) (L : PL) (hm : a.eval m = .map (some b)) (hs : IsM k w b n L)
    (hK : ∀ w', IsR k w' b w.heap.size n L (Maps.has (DL (H := Unit) L)) L.length → w.grownBy w' none → w'.heap.size = w.heap.size + 1 → wpList Try.prog ops Q rest (a.put o.dst (.pointer (some ⟨w.heap.size, 0, none⟩))) w') :
    wpList Try.prog ops Q (o :: rest) a w :=
  wpList_range_own w hg m t hop k 41 K ht _ b n _ hm hs fun w' h1 h2 h3 => by
    rw [size_DL] at h1
    exact hK w' h1 h2 h3

theorem wpList_next (hg : o.guard = none) (it : Operand) (hop : o.op = Op.next it false) (k : TypeId) (K : Keyed Try.prog k) (hk : Try.prog.underlying k = some (.int .u32)) (b r n : Nat) (L : PL) (left : Lit → Bool) (cnt : Nat)
    (hit : a.eval it = .pointer (some ⟨r, 0, none⟩)) (h : IsR k w b r n L left cnt)
    (hDone : (∀ i : Nat, left (.int .u32 i) = false) → wpList Try.prog ops Q rest (a.put o.dst (.tuple #[.bool false])) w)
    (hMore : ∀ (i : Nat) (w' : World) (cnt' : Nat), hasL L i = true → i < 4294967296 → left (.int .u32 i) = true → IsR k w' b r n L (fun z => left z && !z.sameKey (.int .u32 i)) cnt' → cnt' < cnt → w.grownBy w' (some r) → w'.heap.size = w.heap.size →
      (Instr.entry (.pointer (some ⟨r, 0, none⟩))).run Try.prog w' = .ok (.tuple #[.int .u32 i, .int .u16 (getL L i)]) w' → wpList Try.prog ops Q rest (a.put o.dst (.tuple #[.bool true, .int .u32 i, .int .u16 (getL L i)])) w') :
    wpList Try.prog ops Q (o :: rest) a w :=
  wpList_next_ranges_ii w hg it hop k 41 .u32 .u16 K hk Try.underlying41 b r n _ left cnt hit h (fun _ hl => hDone fun i => hl _) fun x c w' cnt' hwx _ hlx hat hrg hlt hgr hsz hen => by
    obtain ⟨i, ei, hi⟩ := has_DL_inv (has_true_of_atKey hat)
    simp only [Lit.int.injEq, true_and] at ei
    subst ei
    have hc := hat (.lit (.int .u16 0))
    rw [atKey_DL, if_pos hi] at hc
    simp only [DataW.lit.injEq, Lit.int.injEq, true_and] at hc
    subst hc
    refine hMore i w' cnt' hi ?_ hlx hrg hlt hgr hsz hen
    simp [Lit.wf, IntKind.min, IntKind.max, IntKind.bits, IntKind.signed] at hwx
    omega

theorem wpList_len (hg : o.guard = none) (m : Operand) (t k : TypeId) (hop : o.op = Op.call { callee := Callee.builtin Builtin.len, args := #[m], argTypes := #[t] }) (ht : Try.prog.underlying t = some (.map k 41))
    (b n : Nat) (L : PL) (hm : a.eval m = .map (some b)) (hs : IsM k w b n L) (hK : wpList Try.prog ops Q rest (a.put o.dst (.int .i64 L.length)) w) : wpList Try.prog ops Q (o :: rest) a w :=
  wpList_len_own w hg m t hop k 41 ht _ b n _ hm hs (by rw [size_DL]; exact hK)
end

/-! ### Add -/
theorem add_yes (b n : Nat) (L : PL) (i m : Nat) (w : World) (hs : IsM 68 w b n L) (hL : Bd L) (hi : i < 4294967296) (hm : m < 65536) (h : getL L i &&& m = m) :
    Calls Try.prog 31 #[.map (some b), .int .u32 i, .int .u16 m] w fun e w' => e = .returned (.bool false) ∧ w = w' := by
  have hg := get_bd hL i
  have ha := u16_and_nat (getL L i) m hg hm
  rw [h] at ha
  have HA := Lib.hid ha
  clear ha h
  go_enter Try.func31, Try.ntmps31
  go_wp2_with (first
    | (at_lookup; refine wpList_look _ rfl _ _ 64 68 rfl law68 Try.underlying68 Try.underlying64 b n L rfl hs i hi rfl ?_; have ha := HA.out)
    | go_in)
  go_ret
  exact ⟨rfl, rfl⟩

theorem add_no (b n : Nat) (L : PL) (i m : Nat) (w : World) (hs : IsM 68 w b n L) (hn : n < 2147483648) (hL : Bd L) (hi : i < 4294967296) (hm : m < 65536) (h : ¬ getL L i &&& m = m) :
    Calls Try.prog 31 #[.map (some b), .int .u32 i, .int .u16 m] w fun e w' => e = .returned (.bool true) ∧ IsM 68 w' b (n + 1) (putL L i (getL L i ||| m)) ∧ w.grownBy w' (some b) := by
  have hg := get_bd hL i
  have ha := u16_and_nat (getL L i) m hg hm
  have ho := u16_or_nat (getL L i) m hg hm
  have hol := or_lt16 hg hm
  have ht : ((bits .and .u16 (getL L i : Int) (m : Int)) == (m : Int)) = false := by rw [ha]; simp; omega
  have HT := Lib.hid ht
  have HO := Lib.hid ho
  clear ha h ho ht
  go_enter Try.func31, Try.ntmps31
  go_wp2_with (first
    | (at_lookup; refine wpList_look _ rfl _ _ 64 68 rfl law68 Try.underlying68 Try.underlying64 b n L rfl hs i hi rfl ?_; have ht := HT.out)
    | (at_mapUpdate; refine wpList_put _ rfl _ _ _ 64 68 rfl law68 Try.underlying68 Try.underlying64 b n L rfl hs hn i hi rfl _ (getL L i ||| m) rfl HO.out hol ?_; intro w1 hs1 hg1)
    | go_in)
  go_ret
  exact ⟨rfl, hs1, hg1⟩

/-- Add: whether it changes the set, and what the set holds behind it. -/
theorem add_any (b n : Nat) (L : PL) (i m : Nat) (w : World) (hs : IsM 68 w b n L) (hn : n < 2147483648) (hL : Bd L) (hi : i < 4294967296) (hm : m < 65536) :
    Calls Try.prog 31 #[.map (some b), .int .u32 i, .int .u16 m] w fun e w' => e = .returned (.bool (decide (¬ getL L i &&& m = m))) ∧ IsM 68 w' b (n + 1) (addL L i m) ∧ w.grownBy w' (some b) := by
  by_cases h : getL L i &&& m = m
  · refine (add_yes b n L i m w hs hL hi hm h).mono fun e w' hew => ?_
    obtain ⟨rfl, rfl⟩ := hew
    exact ⟨by simp [h], by rw [addL, if_pos h]; exact hs.mono (by omega), World.grownBy.refl w _⟩
  · refine (add_no b n L i m w hs hn hL hi hm h).mono fun e w' hew => ?_
    obtain ⟨rfl, h1, h2⟩ := hew
    exact ⟨by simp [h], by rw [addL, if_neg h]; exact h1, h2⟩

/-! ### rows of pairs -/
/-- The slice value's address A leads to the pairs l, in blocks below B. -/
def RowP (w : World) (B : Nat) (A : Option Addr) (l : PL) : Prop :=
  0 < l.length → ∃ b off, A = some ⟨b, off, none⟩ ∧ b < B ∧ ∀ k p, l[k]? = some p → w.cell? ⟨b, off + k * 2, none⟩ = some (.int .u32 p.1) ∧ w.cell? ⟨b, off + k * 2 + 1, none⟩ = some (.int .u16 p.2)

theorem RowP.keep {w w' : World} {B : Nat} {A : Option Addr} {l : PL} (h : RowP w B A l) (hk : ∀ p : Addr, p.block < B → w'.cell? p = w.cell? p) : RowP w' B A l := fun hn => by
  obtain ⟨b, off, e, hb, hc⟩ := h hn
  exact ⟨b, off, e, hb, fun k p hp => ⟨(hk _ hb).trans (hc k p hp).1, (hk _ hb).trans (hc k p hp).2⟩⟩
theorem RowP.below {w w' : World} {B : Nat} {A : Option Addr} {l : PL} (h : RowP w B A l) (hb : Below B w w') : RowP w' B A l := h.keep fun _ hp => hb.cell hp
theorem RowP.more {w : World} {B B' : Nat} {A : Option Addr} {l : PL} (h : RowP w B A l) (hB : B ≤ B') : RowP w B' A l := fun hn => by
  obtain ⟨b, off, e, hb, hc⟩ := h hn
  exact ⟨b, off, e, by omega, hc⟩

theorem take_snoc {α : Type} {l : List α} {k : Nat} {p : α} (h : l[k]? = some p) : l.take (k + 1) = l.take k ++ [p] := by
  rw [List.take_add_one, h]; rfl

theorem bd_take {l : PL} (h : Bd l) (k : Nat) : Bd (l.take k) := fun p hp => h p (List.mem_of_mem_take hp)

/-! ### set -/
theorem new_any (w : World) : Calls Try.prog 37 #[] w fun e w' => e = .returned (.map (some w.heap.size)) ∧ w' = w.alloc (.map #[] 0) := by
  have hmm := @run_makeMap Try.prog
  go_enter Try.func37, Try.ntmps37
  go_wp2
  go_ret
  exact ⟨rfl, rfl⟩

set_option maxRecDepth 100000 in
theorem set_any (B : Nat) (A : Option Addr) (n c : Nat) (l : PL) (w : World) (hr : RowP w B A l) (hB : B ≤ w.heap.size) (hln : l.length = n) (hn : n < 2147483648) (hl : Bd l) :
    Calls Try.prog 29 #[.slice A n c] w fun e w' => e = .returned (.map (some w.heap.size)) ∧ IsM 68 w' w.heap.size n (setL l) ∧ Below w.heap.size w w' := by
  go_enter Try.func29, Try.ntmps29
  go_wp2_with (go_at_call 37; refine (new_any _).mono ?_; rintro e w' ⟨rfl, rfl⟩)
  go_loopw [9] (fun i wr => ∃ k : Nat, k ≤ n ∧ i = .int .i64 k ∧ IsM 68 wr w.heap.size k (setL (l.take k)) ∧ Below w.heap.size w wr) (fun i _ => n - (intOf i).toNat)
  case atStart => exact ⟨0, Nat.zero_le _, rfl, World.ownsMap_made _ _ _ _, (Below.refl _ _).alloc (Nat.le_refl _) _⟩
  case round =>
    obtain ⟨k, hk, rfl, hs, hnx⟩ := hrel
    by_cases hlt : k < n
    · obtain ⟨p, hp⟩ : ∃ p, l[k]? = some p := ⟨l[k]'(by omega), List.getElem?_eq_getElem (by omega)⟩
      have hpb := hl p (List.mem_of_getElem? hp)
      obtain ⟨blk, off, rfl, hblk, hcs⟩ := hr (by omega)
      have hc := hcs k p hp
      have hc0 : wr.cell? ⟨blk, off + k * 2, none⟩ = some (.int .u32 p.1) := (hnx.cell (p := ⟨blk, off + k * 2, none⟩) (by simp; omega)).trans hc.1
      have hc1 : wr.cell? ⟨blk, off + k * 2 + 1, none⟩ = some (.int .u16 p.2) := (hnx.cell (p := ⟨blk, off + k * 2 + 1, none⟩) (by simp; omega)).trans hc.2
      clear hcs hc hr
      obtain ⟨p1, p2⟩ := p
      have hbd := bd_take hl k
      have HP := Lib.hid hp
      clear hp
      go_wp2_with fail
      refine (add_any w.heap.size k (setL (l.take k)) p1 p2 _ (hs.alloc _) (by omega) (ok_setL hbd).2.2 hpb.1 hpb.2).mono ?_
      rintro e w1 ⟨rfl, hs1, hg1⟩
      have HS := Lib.hid hs1
      have HG := Lib.hid ((World.grownBy_alloc wr (.cells #[.int .u32 p1, .int .u16 p2] 43) (some w.heap.size)).andThen hg1 (fun j hj => .inr hj))
      clear hs1 hg1
      go_wp2
      go_roundw
      case rel => exact ⟨k + 1, by omega, by go_num, by rw [take_snoc HP.out, setL_snoc]; exact HS.out, hnx.grown HG.out hnx.size (fun j hj => by cases hj; exact Nat.le_refl _)⟩
      case measure => simp [intOf]; omega
    · go_wp2_with fail
      obtain rfl : k = n := by omega
      go_ret
      rw [List.take_of_length_le (by omega)] at hs
      exact ⟨rfl, hs, hnx⟩

/-! ### Equals -/
set_option maxRecDepth 100000 in
theorem equals_any (b1 n1 b2 n2 : Nat) (L M : PL) (w : World) (hs : IsM 68 w b1 n1 L) (ht : IsM 68 w b2 n2 M) (hL : Ok L) (hM : Ok M) :
    Calls Try.prog 30 #[.map (some b1), .map (some b2)] w fun e w' => e = .returned (.bool (decide (L = M))) ∧ Below w.heap.size w w' := by
  have l1 := hs.len_le
  have l2 := ht.len_le
  by_cases hlen : L.length = M.length
  · have hb : ((L.length : Int) != (M.length : Int)) = false := by rw [hlen]; simp
    have HB := Lib.hid hb
    have HL := Lib.hid hlen
    clear hb hlen
    go_enter Try.func30, Try.ntmps30
    go_wp2_with (first
      | (at_len; first | (refine wpList_len _ rfl (.tmp 9) 64 68 rfl Try.underlying64 b1 n1 L rfl hs ?_) | (refine wpList_len _ rfl (.tmp 11) 64 68 rfl Try.underlying64 b2 n2 M rfl ht ?_; have hb := HB.out))
      | (at_range; refine wpList_range _ rfl _ 64 68 rfl law68 Try.underlying64 b1 n1 L rfl hs ?_; intro w0 hrg0 hg0 hs0)
      | go_in)
    go_frame
    go_loopw [5] (fun _ wr => ∃ (left : Lit → Bool) (cnt : Nat), IsR 68 wr b1 w.heap.size n1 L left cnt ∧ (∀ p ∈ L, left (.int .u32 p.1) = true ∨ p ∈ M) ∧ Below w.heap.size w wr)
      (fun _ wr => wr.rangeLeft b1 w.heap.size)
    case atStart => exact ⟨_, _, hrg0, fun p hp => .inl (by rw [has_DL]; exact has_of_mem hp), (Below.refl _ _).grown hg0 (Nat.le_refl _) (fun j hj => by cases hj)⟩
    case round =>
      obtain ⟨left, cnt, hrg, hA, hnx⟩ := hrel
      go_wp2_with (first
        | (at_next; refine wpList_next _ rfl _ rfl 68 law68 Try.underlying68 b1 w.heap.size n1 L left cnt rfl hrg ?_ ?_)
        | go_in)
      · intro hl0
        go_wp2
        go_ret
        refine ⟨?_, hnx⟩
        have : L = M := eq_of_sub hL.1 hM.1 HL.out fun p hp => by
          rcases hA p hp with h | h
          · rw [hl0] at h; cases h
          · exact h
        simp [this]
      · intro i w1 cnt1 hi hi2 hli hrg1 hlt hg1 hs1 hen
        have hnx1 := hnx.grown hg1 hnx.size (fun j hj => by cases hj; exact Nat.le_refl _)
        have ht1 : IsM 68 w1 b2 n2 M := ht.below hnx1
        by_cases hm : hasL M i = true
        · have hlk := run_look _ ht1 law68 Try.underlying68 Try.underlying64 hi2
          by_cases he : getL L i = getL M i
          · have hne : ((getL L i : Int) != (getL M i : Int)) = false := by rw [he]; simp
            have HE := Lib.hid he
            clear he
            go_wp2_with (first
              | (at_lookup; refine wpList_look_ok _ rfl _ _ 64 68 rfl law68 Try.underlying68 Try.underlying64 b2 n2 M rfl ht1 i hi2 rfl ?_)
              | go_in)
            go_roundw
            case rel =>
              refine ⟨_, cnt1, hrg1, fun p hp => ?_, hnx1⟩
              rcases hA p hp with h | h
              · by_cases e : p.1 = i
                · exact .inr (by
                    have h1 := get_of_mem hL.1 (i := p.1) (v := p.2) hp
                    rw [e, HE.out] at h1
                    have h2 := mem_of_has hm
                    rw [h1, ← e] at h2
                    exact h2)
                · exact .inl (by simp [h, sameKey_u32, e])
              · exact .inr h
            case measure => rw [World.ranges.left_eq hrg1, World.ranges.left_eq hrg]; exact hlt
          · have hne : ((getL L i : Int) != (getL M i : Int)) = true := by rw [bne_iff_ne]; omega
            have HE := Lib.hid he
            clear he
            go_wp2_with (first
              | (at_lookup; refine wpList_look_ok _ rfl _ _ 64 68 rfl law68 Try.underlying68 Try.underlying64 b2 n2 M rfl ht1 i hi2 rfl ?_)
              | go_in)
            go_ret
            exact ⟨by rw [decide_eq_false fun e => HE.out (by rw [e])]; rfl, hnx1⟩
        · have hm' : hasL M i = false := by simpa using hm
          clear hm
          go_wp2_with (first
            | (at_lookup; refine wpList_look_ok _ rfl _ _ 64 68 rfl law68 Try.underlying68 Try.underlying64 b2 n2 M rfl ht1 i hi2 rfl ?_)
            | go_in)
          go_ret
          exact ⟨by rw [decide_eq_false fun e => by rw [e, hm'] at hi; cases hi]; rfl, hnx1⟩
  · have hb : ((L.length : Int) != (M.length : Int)) = true := by rw [bne_iff_ne]; omega
    have HB := Lib.hid hb
    have HL := Lib.hid hlen
    clear hb hlen
    go_enter Try.func30, Try.ntmps30
    go_wp2_with (first
      | (at_len; first | (refine wpList_len _ rfl (.tmp 9) 64 68 rfl Try.underlying64 b1 n1 L rfl hs ?_) | (refine wpList_len _ rfl (.tmp 11) 64 68 rfl Try.underlying64 b2 n2 M rfl ht ?_; have hb := HB.out))
      | go_in)
    go_ret
    exact ⟨by rw [decide_eq_false fun e => HL.out (by rw [e])]; rfl, Below.refl _ _⟩

/-! ### SetEqual -/
/-- SetEqual: whether the two sets are one. -/
theorem setEqual_any (B : Nat) (A : Option Addr) (n c : Nat) (l : PL) (A' : Option Addr) (n' c' : Nat) (l' : PL) (w : World) (hr : RowP w B A l) (hr' : RowP w B A' l') (hB : B ≤ w.heap.size)
    (hln : l.length = n) (hn : n < 2147483648) (hl : Bd l) (hln' : l'.length = n') (hn' : n' < 2147483648) (hl' : Bd l') :
    Calls Try.prog 17 #[.slice A n c, .slice A' n' c'] w fun e w' => e = .returned (.bool (decide (setL l = setL l'))) ∧ Below w.heap.size w w' := by
  go_enter Try.func17, Try.ntmps17
  go_wp2_with fail
  refine (set_any B A n c l _ hr hB hln hn hl).mono ?_
  rintro e w1 ⟨rfl, hs1, hb1⟩
  have hz1 := hb1.size
  have hlt1 := hs1.lt
  go_wp2_with fail
  refine (set_any B A' n' c' l' _ ((hr'.below (hb1.mono hB))) (by omega) hln' hn' hl').mono ?_
  rintro e w2 ⟨rfl, hs2, hb2⟩
  have hs1' := hs1.below hb2
  go_wp2_with fail
  refine (equals_any _ _ _ _ _ _ _ hs1' hs2 (ok_setL hl) (ok_setL hl')).mono ?_
  rintro e w3 ⟨rfl, hb3⟩
  have hb := (hb1.trans (hb2.mono hz1)).trans (hb3.mono (Nat.le_trans hz1 hb2.size))
  go_wp2
  go_ret
  exact ⟨rfl, hb⟩

end Go.Proofs.Ytmonokfibldghaa
