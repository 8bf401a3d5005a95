/- Walks of Update, DifferenceUpdate, Clone and OfKind. Conditions: lengths as stated. -/
import Derived.Test.YtmonokfibldghaaOps
namespace Go.Proofs.Ytmonokfibldghaa
open Go.RowKit Go.Maps Pl

/-! ### what a loop over a set has done to another one -/
/-- S has f at the registers that the loop has met, g at those still to come. -/
def Mid (S : PL) (left : Lit → Bool) (f g : Nat → Nat) : Prop := Ok S ∧ ∀ j : Nat, getL S j = if left (.int .u32 j) = true then g j else f j
theorem Mid.start {L T : PL} (h : Ok L) {f : Nat → Nat} (hf : ∀ j, hasL T j = false → f j = getL L j) : Mid L (Maps.has (DL (H := Unit) T)) f (getL L) := ⟨h, fun j => by
  rw [has_DL]
  cases hh : hasL T j with
  | true => simp
  | false => simp [hf j hh]⟩
theorem Mid.step {S S' : PL} {left : Lit → Bool} {f g : Nat → Nat} {i : Nat} (h : Mid S left f g) (h' : Ok S') (hS : ∀ j, getL S' j = if j = i then f i else getL S j) : Mid S' (fun z => left z && !z.sameKey (.int .u32 i)) f g := ⟨h', fun j => by
  rw [hS]
  simp only [sameKey_u32]
  by_cases e : j = i
  · subst e; simp
  · simp [e, h.2 j]⟩
theorem Mid.done {S : PL} {left : Lit → Bool} {f g : Nat → Nat} (h : Mid S left f g) (hl : ∀ i : Nat, left (.int .u32 i) = false) : ∀ j, getL S j = f j := fun j => by rw [h.2 j, hl]; simp
theorem Mid.now {S : PL} {left : Lit → Bool} {f g : Nat → Nat} {i : Nat} (h : Mid S left f g) (hl : left (.int .u32 (i : Nat)) = true) : getL S i = g i := by rw [h.2 i, hl]; simp

/-- Whether a part that was met was new. -/
def Turned (L T : PL) (left : Lit → Bool) (c : Bool) : Prop := c = true ↔ ∃ p ∈ T, left (.int .u32 (p.1 : Nat)) = false ∧ ¬ getL L p.1 &&& p.2 = p.2
theorem Turned.start (L T : PL) : Turned L T (Maps.has (DL (H := Unit) T)) false := by
  constructor
  · intro h; cases h
  · rintro ⟨p, hp, h, _⟩; rw [has_DL, has_of_mem (v := p.2) hp] at h; cases h
theorem Turned.step {L T : PL} {left : Lit → Bool} {c : Bool} {i : Nat} (hT : Asc T) (h : Turned L T left c) (hi : hasL T i = true) : Turned L T (fun z => left z && !z.sameKey (.int .u32 i)) (decide (¬ getL L i &&& getL T i = getL T i) || c) := by
  unfold Turned at h ⊢
  rw [Bool.or_eq_true, h, decide_eq_true_iff]
  simp only [sameKey_u32]
  constructor
  · rintro (h1 | ⟨p, hp, h2, h3⟩)
    · exact ⟨_, mem_of_has hi, by simp, h1⟩
    · exact ⟨p, hp, by simp [h2], h3⟩
  · rintro ⟨p, hp, h2, h3⟩
    by_cases e : p.1 = i
    · have := get_of_mem hT (i := p.1) (v := p.2) hp
      rw [e] at this h3
      rw [← this] at h3
      exact .inl h3
    · exact .inr ⟨p, hp, by simpa [e] using h2, h3⟩

set_option maxHeartbeats 400000 in
set_option maxRecDepth 100000 in
/-- Update: the other set's parts are added; whether that changes the set. -/
theorem update_any (b1 n1 b2 n2 : Nat) (L T : PL) (w : World) (hs : IsM 68 w b1 n1 L) (ht : IsM 68 w b2 n2 T) (hne : b1 ≠ b2) (hn : n1 + n2 < 2147483648) (hL : Ok L) (hT : Ok T) :
    Calls Try.prog 35 #[.map (some b1), .map (some b2)] w fun e w' => ∃ (c : Bool) (S : PL), e = .returned (.bool c) ∧ (c = true ↔ ∃ p ∈ T, ¬ getL L p.1 &&& p.2 = p.2) ∧ Ok S ∧ (∀ j, getL S j = getL L j ||| getL T j) ∧ IsM 68 w' b1 (n1 + n2) S ∧ w.grownBy w' (some b1) := by
  have hl2 := ht.len_le
  have hlt1 := hs.lt
  have hlt2 := ht.lt
  go_enter Try.func35, Try.ntmps35
  go_wp2_with (first
    | (at_range; refine wpList_range _ rfl _ 64 68 rfl law68 Try.underlying64 b2 n2 T rfl ht ?_; intro w0 hrg0 hg0 hs0)
    | go_in)
  go_frame
  go_loopw [5] (fun v wr => ∃ (left : Lit → Bool) (cnt : Nat) (S : PL) (c : Bool), v = .bool c ∧ IsR 68 wr b2 w.heap.size n2 T left cnt ∧ cnt ≤ n2 ∧ IsM 68 wr b1 (n1 + (n2 - cnt)) S ∧ Mid S left (fun j => getL L j ||| getL T j) (getL L) ∧ Turned L T left c ∧ w.grownBy wr (some b1) ∧ w.heap.size < wr.heap.size)
    (fun _ wr => wr.rangeLeft b2 w.heap.size)
  case atStart => exact ⟨_, _, L, false, rfl, hrg0, hl2, (hs.kept hg0 (by simp)).mono (by omega), Mid.start hL (fun j hj => by rw [get_of_not_has hj]; simp), Turned.start L T, hg0.but _, by omega⟩
  case round =>
    obtain ⟨left, cnt, S, c, rfl, hrg, hcn, hsm, hmid, htu, hgw, hsz⟩ := hrel
    go_wp2_with (first
      | (at_next; refine wpList_next _ rfl _ rfl 68 law68 Try.underlying68 b2 w.heap.size n2 T left cnt rfl hrg ?_ ?_)
      | go_in)
    · intro hl0
      go_wp2
      go_ret
      refine ⟨c, S, rfl, htu.trans ?_, hmid.1, hmid.done hl0, hsm.mono (by omega), hgw⟩
      exact ⟨fun ⟨p, hp, _, h⟩ => ⟨p, hp, h⟩, fun ⟨p, hp, h⟩ => ⟨p, hp, hl0 _, h⟩⟩
    · intro i w1 cnt1 hi hi2 hli hrg1 hlt hg1 hs1 hen
      have hne1 : some b1 ≠ some w.heap.size := by simp; omega
      have hsm1 := hsm.kept hg1 hne1
      have hsz1 : w.heap.size < w1.heap.size := by omega
      clear hs1
      have hgi := hmid.now hli
      have hb := get_bd hT.2.2 i
      have hok := ok_add hmid.1 hi2 hb
      have hstep := hmid.step hok (fun j => (get_add hmid.1.1 i (getL T i) j).trans (by rw [hgi]))
      have HT := Lib.hid (htu.step hT.1 hi)
      have HS := Lib.hid hstep
      have hgw1 := hgw.andThen hg1 (fun j hj => .inl (by cases hj; exact Nat.le_refl _))
      have HC := Lib.hid (add_any b1 (n1 + (n2 - cnt)) S i (getL T i) w1 hsm1 (by omega) hmid.1.2.2 hi2 hb)
      rw [hgi] at HC
      obtain ⟨ch, hch⟩ : ∃ ch, decide (¬ getL L i &&& getL T i = getL T i) = ch := ⟨_, rfl⟩
      rw [hch] at HC HT
      clear hch hgi htu hmid hstep
      cases ch with
      | true =>
        go_wp2_with (go_at_call 31; refine HC.out.mono ?_; rintro e w2 ⟨rfl, hs2, hg2⟩)
        have F1 := Lib.hid (hrg1.kept hg2 (by simp; omega) (by simp; omega))
        have F2 := Lib.hid (hs2.mono (show n1 + (n2 - cnt) + 1 ≤ n1 + (n2 - cnt1) by omega))
        have F3 := Lib.hid (hgw1.andThen hg2 (fun j hj => .inr hj))
        have F4 := Lib.hid (Nat.lt_of_lt_of_le hsz1 hg2.size)
        clear hs2 hg2
        go_roundw
        case rel => exact ⟨_, cnt1, _, _, rfl, F1.out, by omega, F2.out, HS.out, HT.out, F3.out, F4.out⟩
        case measure => rw [World.ranges.left_eq F1.out, World.ranges.left_eq hrg]; exact hlt
      | false =>
        go_wp2_with (go_at_call 31; refine HC.out.mono ?_; rintro e w2 ⟨rfl, hs2, hg2⟩)
        have F1 := Lib.hid (hrg1.kept hg2 (by simp; omega) (by simp; omega))
        have F2 := Lib.hid (hs2.mono (show n1 + (n2 - cnt) + 1 ≤ n1 + (n2 - cnt1) by omega))
        have F3 := Lib.hid (hgw1.andThen hg2 (fun j hj => .inr hj))
        have F4 := Lib.hid (Nat.lt_of_lt_of_le hsz1 hg2.size)
        clear hs2 hg2
        go_roundw
        case rel => exact ⟨_, cnt1, _, _, rfl, F1.out, by omega, F2.out, HS.out, HT.out, F3.out, F4.out⟩
        case measure => rw [World.ranges.left_eq F1.out, World.ranges.left_eq hrg]; exact hlt

set_option maxHeartbeats 400000 in
set_option maxRecDepth 100000 in
/-- DifferenceUpdate: the other set's parts are taken out. -/
theorem diffUpdate_any (b1 n1 b2 n2 : Nat) (L T : PL) (w : World) (hs : IsM 68 w b1 n1 L) (ht : IsM 68 w b2 n2 T) (hne : b1 ≠ b2) (hn : n1 + n2 < 2147483648) (hL : Ok L) (hT : Ok T) :
    Calls Try.prog 42 #[.map (some b1), .map (some b2)] w fun e w' => ∃ (c : Bool) (S : PL), e = .returned (.bool c) ∧ Ok S ∧ (∀ j, getL S j = andn (getL L j) (getL T j)) ∧ IsM 68 w' b1 (n1 + n2) S ∧ w.grownBy w' (some b1) := by
  have hl2 := ht.len_le
  have hlt1 := hs.lt
  have hlt2 := ht.lt
  go_enter Try.func42, Try.ntmps42
  go_wp2_with (first
    | (at_range; refine wpList_range _ rfl _ 64 68 rfl law68 Try.underlying64 b2 n2 T rfl ht ?_; intro w0 hrg0 hg0 hs0)
    | go_in)
  go_frame
  go_loopw [5] (fun v wr => ∃ (left : Lit → Bool) (cnt : Nat) (S : PL) (c : Bool), v = .bool c ∧ IsR 68 wr b2 w.heap.size n2 T left cnt ∧ cnt ≤ n2 ∧ IsM 68 wr b1 (n1 + (n2 - cnt)) S ∧ Mid S left (fun j => andn (getL L j) (getL T j)) (getL L) ∧ w.grownBy wr (some b1) ∧ w.heap.size < wr.heap.size)
    (fun _ wr => wr.rangeLeft b2 w.heap.size)
  case atStart => exact ⟨_, _, L, false, rfl, hrg0, hl2, (hs.kept hg0 (by simp)).mono (by omega), Mid.start hL (fun j hj => by rw [get_of_not_has hj]; simp [andn]), hg0.but _, by omega⟩
  case round =>
    obtain ⟨left, cnt, S, c, rfl, hrg, hcn, hsm, hmid, hgw, hsz⟩ := hrel
    go_wp2_with (first
      | (at_next; refine wpList_next _ rfl _ rfl 68 law68 Try.underlying68 b2 w.heap.size n2 T left cnt rfl hrg ?_ ?_)
      | go_in)
    · intro hl0
      go_wp2
      go_ret
      exact ⟨c, S, rfl, hmid.1, hmid.done hl0, hsm.mono (by omega), hgw⟩
    · intro i w1 cnt1 hi hi2 hli hrg1 hlt hg1 hs1 hen
      have hne1 : some b1 ≠ some w.heap.size := by simp; omega
      have hsm1 := hsm.kept hg1 hne1
      have hsz1 : w.heap.size < w1.heap.size := by omega
      clear hs1
      have hgi := hmid.now hli
      have hb := get_bd hT.2.2 i
      have hok := ok_disc (m := getL T i) hmid.1 hi2
      have hstep := hmid.step hok (fun j => (get_disc hmid.1.1 i (getL T i) j).trans (by rw [hgi]))
      have HS := Lib.hid hstep
      have hgw1 := hgw.andThen hg1 (fun j hj => .inl (by cases hj; exact Nat.le_refl _))
      have HC := Lib.hid (disc_any b1 (n1 + (n2 - cnt)) S i (getL T i) w1 hsm1 (by omega) hmid.1.1 hmid.1.2.2 hi2 hb)
      obtain ⟨ch, hch⟩ : ∃ ch, decide (¬ getL S i &&& getL T i = 0) = ch := ⟨_, rfl⟩
      rw [hch] at HC
      clear hch hgi hmid hstep
      cases ch with
      | true =>
        go_wp2_with (go_at_call 33; refine HC.out.mono ?_; rintro e w2 ⟨rfl, hs2, hg2⟩)
        have F1 := Lib.hid (hrg1.kept hg2 (by simp; omega) (by simp; omega))
        have F2 := Lib.hid (hs2.mono (show n1 + (n2 - cnt) + 1 ≤ n1 + (n2 - cnt1) by omega))
        have F3 := Lib.hid (hgw1.andThen hg2 (fun j hj => .inr hj))
        have F4 := Lib.hid (Nat.lt_of_lt_of_le hsz1 hg2.size)
        clear hs2 hg2
        go_roundw
        case rel => exact ⟨_, cnt1, _, true, rfl, F1.out, by omega, F2.out, HS.out, F3.out, F4.out⟩
        case measure => rw [World.ranges.left_eq F1.out, World.ranges.left_eq hrg]; exact hlt
      | false =>
        go_wp2_with (go_at_call 33; refine HC.out.mono ?_; rintro e w2 ⟨rfl, hs2, hg2⟩)
        have F1 := Lib.hid (hrg1.kept hg2 (by simp; omega) (by simp; omega))
        have F2 := Lib.hid (hs2.mono (show n1 + (n2 - cnt) + 1 ≤ n1 + (n2 - cnt1) by omega))
        have F3 := Lib.hid (hgw1.andThen hg2 (fun j hj => .inr hj))
        have F4 := Lib.hid (Nat.lt_of_lt_of_le hsz1 hg2.size)
        clear hs2 hg2
        go_roundw
        case rel => exact ⟨_, cnt1, _, _, rfl, F1.out, by omega, F2.out, HS.out, F3.out, F4.out⟩
        case measure => rw [World.ranges.left_eq F1.out, World.ranges.left_eq hrg]; exact hlt

theorem mid_new (T : PL) {f : Nat → Nat} (hf : ∀ j, hasL T j = false → f j = 0) : Mid [] (Maps.has (DL (H := Unit) T)) f (fun _ => 0) := ⟨ok_nil, fun j => by
  rw [has_DL]
  cases hh : hasL T j with
  | true => simp; rfl
  | false => simp [hf j hh]; rfl⟩

set_option maxHeartbeats 400000 in
set_option maxRecDepth 100000 in
/-- Clone: another set that holds the same. -/
theorem clone_any (b n : Nat) (L : PL) (w : World) (hs : IsM 68 w b n L) (hn : n < 2147483648) (hL : Ok L) :
    Calls Try.prog 41 #[.map (some b)] w fun e w' => e = .returned (.map (some w.heap.size)) ∧ IsM 68 w' w.heap.size n L ∧ Below w.heap.size w w' := by
  have hl := hs.len_le
  have hlt := hs.lt
  have e1 : (w.alloc (.map #[] 0)).heap.size = w.heap.size + 1 := by simp
  go_enter Try.func41, Try.ntmps41
  go_wp2_with (first
    | (go_at_call 37; refine (new_any _).mono ?_; rintro e w' ⟨rfl, rfl⟩)
    | (at_range; refine wpList_range _ rfl _ 64 68 rfl law68 Try.underlying64 b n L rfl (hs.alloc _) ?_; intro w0 hrg0 hg0 hs0))
  go_frame
  rw [e1] at hrg0 hs0 ⊢
  go_loopw [4] (fun _ wr => ∃ (left : Lit → Bool) (cnt : Nat) (S : PL), IsR 68 wr b (w.heap.size + 1) n L left cnt ∧ cnt ≤ n ∧ IsM 68 wr w.heap.size (n - cnt) S ∧ Mid S left (getL L) (fun _ => 0) ∧ Below w.heap.size w wr)
    (fun _ wr => wr.rangeLeft b (w.heap.size + 1))
  case atStart =>
    have hmade : IsM 68 (w.alloc (.map #[] 0)) w.heap.size 0 [] := World.ownsMap_made _ _ _ _
    refine ⟨_, _, [], hrg0, hl, (hmade.kept hg0 (by simp)).mono (Nat.zero_le _), mid_new L (fun j hj => get_of_not_has hj), ((Below.refl _ _).alloc (Nat.le_refl _) _).grown hg0 (by simp) (fun j hj => by cases hj)⟩
  case round =>
    obtain ⟨left, cnt, S, hrg, hcn, hsm, hmid, hbel⟩ := hrel
    go_wp2_with (first
      | (at_next; refine wpList_next _ rfl _ rfl 68 law68 Try.underlying68 b (w.heap.size + 1) n L left cnt rfl hrg ?_ ?_)
      | go_in)
    · intro hl0
      go_wp2
      go_ret
      have e : S = L := ok_ext hmid.1 hL (hmid.done hl0)
      rw [e] at hsm
      exact ⟨rfl, hsm.mono (by omega), hbel⟩
    · intro i w1 cnt1 hi hi2 hli hrg1 hlt1 hg1 hs1 hen
      clear hs1
      have hsm1 := hsm.kept hg1 (by simp)
      have hbel1 := hbel.grown hg1 hbel.size (fun j hj => by cases hj; omega)
      have hgi : getL S i = 0 := hmid.now hli
      have hb := get_bd hL.2.2 i
      have hok := ok_add hmid.1 hi2 hb
      have HS := Lib.hid (hmid.step hok (fun j => (get_add hmid.1.1 i (getL L i) j).trans (by rw [hgi, Nat.zero_or])))
      have HC := Lib.hid (add_any w.heap.size (n - cnt) S i (getL L i) w1 hsm1 (by omega) hmid.1.2.2 hi2 hb)
      clear hgi hmid
      have hz1 := hbel1.size
      go_wp2_with (go_at_call 31; refine HC.out.mono ?_; rintro e w2 ⟨rfl, hs2, hg2⟩)
      have F1 := Lib.hid (hrg1.kept hg2 (by simp; omega) (by simp))
      have F2 := Lib.hid (hs2.mono (show n - cnt + 1 ≤ n - cnt1 by omega))
      have F3 := Lib.hid (hbel1.grown hg2 hz1 (fun j hj => by cases hj; exact Nat.le_refl _))
      clear hs2 hg2
      go_roundw
      case rel => exact ⟨_, cnt1, _, F1.out, by omega, F2.out, HS.out, F3.out⟩
      case measure => rw [World.ranges.left_eq F1.out, World.ranges.left_eq hrg]; exact hlt1

/-! ### OfKind -/
theorem kind_any (i : Nat) (w : World) : Calls Try.prog 40 #[.int .u32 i] w fun e w' => e = .returned (.int .u8 (i / 256 % 256 : Nat)) ∧ w = w' := by
  have hk : IntKind.u8.wrap ((i : Int) / 256) = ((i / 256 % 256 : Nat) : Int) := by rw [IntKind.wrap_u8']; omega
  go_enter Try.func40, Try.ntmps40
  go_wp2
  go_ret
  exact ⟨rfl, rfl⟩

/-- The parts of registers of a kind. -/
def kindL (k : Nat) (L : PL) : PL := L.filter fun p => p.1 / 256 % 256 == k
theorem ok_kindL {L : PL} (h : Ok L) (k : Nat) : Ok (kindL k L) := ⟨List.Pairwise.filter _ h.1, fun p hp => h.2.1 p (List.mem_filter.1 hp).1, fun p hp => h.2.2 p (List.mem_filter.1 hp).1⟩
theorem get_kindL {L : PL} (h : Asc L) (k j : Nat) : getL (kindL k L) j = if j / 256 % 256 = k then getL L j else 0 := by
  have hA : Asc (kindL k L) := List.Pairwise.filter _ h
  split
  · rename_i e
    cases hh : hasL L j with
    | true => exact get_of_mem hA (List.mem_filter.2 ⟨mem_of_has hh, by simpa using e⟩)
    | false =>
      rw [get_of_not_has hh]; refine get_of_not_has (not_has_of fun p hp ep => ?_)
      have := has_of_mem (L := L) (i := p.1) (v := p.2) (List.mem_filter.1 hp).1
      rw [ep, hh] at this; cases this
  · rename_i e
    refine get_of_not_has (not_has_of fun p hp ep => ?_)
    have := (List.mem_filter.1 hp).2
    rw [ep] at this
    exact e (by simpa using this)

theorem ofKind_any (b n k : Nat) (L : PL) (w : World) (hs : IsM 68 w b n L) (hn : n < 2147483648) (hL : Ok L) :
    Calls Try.prog 34 #[.map (some b), .int .u8 (k : Int)] w fun e w' => e = .returned (.map (some w.heap.size)) ∧ IsM 68 w' w.heap.size n (kindL k L) ∧ Below w.heap.size w w' := by
  have hl := hs.len_le
  have hlt := hs.lt
  have e1 : (w.alloc (.map #[] 0)).heap.size = w.heap.size + 1 := by simp
  go_enter Try.func34, Try.ntmps34
  go_wp2_with (first
    | (go_at_call 37; refine (new_any _).mono ?_; rintro e w' ⟨rfl, rfl⟩)
    | (at_range; refine wpList_range _ rfl _ 64 68 rfl law68 Try.underlying64 b n L rfl (hs.alloc _) ?_; intro w0 hrg0 hg0 hs0))
  go_frame
  rw [e1] at hrg0 hs0 ⊢
  go_loopw [6] (fun _ wr => ∃ (left : Lit → Bool) (cnt : Nat) (S : PL), IsR 68 wr b (w.heap.size + 1) n L left cnt ∧ cnt ≤ n ∧ IsM 68 wr w.heap.size (n - cnt) S ∧ Mid S left (fun j => if j / 256 % 256 = k then getL L j else 0) (fun _ => 0) ∧ Below w.heap.size w wr)
    (fun _ wr => wr.rangeLeft b (w.heap.size + 1))
  case atStart =>
    have hmade : IsM 68 (w.alloc (.map #[] 0)) w.heap.size 0 [] := World.ownsMap_made _ _ _ _
    refine ⟨_, _, [], hrg0, hl, (hmade.kept hg0 (by simp)).mono (Nat.zero_le _), mid_new L (fun j hj => by rw [get_of_not_has hj]; simp), ((Below.refl _ _).alloc (Nat.le_refl _) _).grown hg0 (by simp) (fun j hj => by cases hj)⟩
  case round =>
    obtain ⟨left, cnt, S, hrg, hcn, hsm, hmid, hbel⟩ := hrel
    go_wp2_with (first
      | (at_next; refine wpList_next _ rfl _ rfl 68 law68 Try.underlying68 b (w.heap.size + 1) n L left cnt rfl hrg ?_ ?_)
      | go_in)
    · intro hl0
      go_wp2
      go_ret
      have e : S = kindL k L := ok_ext hmid.1 (ok_kindL hL k) (fun j => by rw [hmid.done hl0, get_kindL hL.1])
      rw [e] at hsm
      exact ⟨rfl, hsm.mono (by omega), hbel⟩
    · intro i w1 cnt1 hi hi2 hli hrg1 hlt1 hg1 hs1 hen
      clear hs1
      have hsm1 := hsm.kept hg1 (by simp)
      have hbel1 := hbel.grown hg1 hbel.size (fun j hj => by cases hj; omega)
      have hgi : getL S i = 0 := hmid.now hli
      have hb := get_bd hL.2.2 i
      have hz1 := hbel1.size
      by_cases hk : i / 256 % 256 = k
      · have hok := ok_add hmid.1 hi2 hb
        have HS := Lib.hid (hmid.step hok (fun j => (get_add hmid.1.1 i (getL L i) j).trans (by rw [hgi, Nat.zero_or, if_pos hk])))
        have HC := Lib.hid (add_any w.heap.size (n - cnt) S i (getL L i) w1 hsm1 (by omega) hmid.1.2.2 hi2 hb)
        have ht : (((i / 256 % 256 : Nat) : Int) == (k : Int)) = true := by rw [hk]; simp
        have HK := Lib.hid ht
        clear hgi hmid hk ht
        go_wp2_with (first
          | (go_at_call 40; refine (kind_any i _).mono ?_; rintro e w' ⟨rfl, rfl⟩; have ht := HK.out)
          | (go_at_call 31; refine HC.out.mono ?_; rintro e w2 ⟨rfl, hs2, hg2⟩))
        have F1 := Lib.hid (hrg1.kept hg2 (by simp; omega) (by simp))
        have F2 := Lib.hid (hs2.mono (show n - cnt + 1 ≤ n - cnt1 by omega))
        have F3 := Lib.hid (hbel1.grown hg2 hz1 (fun j hj => by cases hj; exact Nat.le_refl _))
        clear hs2 hg2
        go_roundw
        case rel => exact ⟨_, cnt1, _, F1.out, by omega, F2.out, HS.out, F3.out⟩
        case measure => rw [World.ranges.left_eq F1.out, World.ranges.left_eq hrg]; exact hlt1
      · have HS := Lib.hid (hmid.step hmid.1 (fun j => by
          by_cases e : j = i
          · subst e; rw [hgi, if_pos rfl, if_neg hk]
          · rw [if_neg e]))
        have ht : (((i / 256 % 256 : Nat) : Int) == (k : Int)) = false := by simp; omega
        have HK := Lib.hid ht
        clear hgi hmid hk ht
        go_wp2_with (go_at_call 40; refine (kind_any i _).mono ?_; rintro e w' ⟨rfl, rfl⟩; have ht := HK.out)
        have F2 := Lib.hid (hsm1.mono (show n - cnt ≤ n - cnt1 by omega))
        go_roundw
        case rel => exact ⟨_, cnt1, _, hrg1, by omega, F2.out, HS.out, hbel1⟩
        case measure => rw [World.ranges.left_eq hrg1, World.ranges.left_eq hrg]; exact hlt1

end Go.Proofs.Ytmonokfibldghaa
