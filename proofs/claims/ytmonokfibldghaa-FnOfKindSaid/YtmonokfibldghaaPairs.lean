/- The walk of the statements' own maker of pairs. Conditions: lengths as stated. -/
import Derived.Test.YtmonokfibldghaaLists
namespace Go.Proofs.Ytmonokfibldghaa
open Go.RowKit Go.Maps Pl

/-- The pair of a number. -/
def pairOf (z : Nat) : Nat × Nat := ((z / 256 % 5 * 65536 ||| z / 4096 % 4 * 256) ||| (z / 16384 &&& 1), z &&& 127)
/-- The pairs of a list of numbers: of the first fifty. -/
def prs (zs : List Nat) : PL := (zs.take 50).map pairOf
theorem pairOf_fst_lt (z : Nat) : (pairOf z).1 < 524288 := by
  have e : (2 : Nat) ^ 19 = 524288 := by rfl
  have h3 : z / 16384 &&& 1 ≤ 1 := Nat.and_le_right
  have h12 := Nat.or_lt_two_pow (n := 19) (x := z / 256 % 5 * 65536) (y := z / 4096 % 4 * 256) (by rw [e]; omega) (by rw [e]; omega)
  have := Nat.or_lt_two_pow (n := 19) h12 (y := z / 16384 &&& 1) (by rw [e]; omega)
  rw [e] at this
  exact this
theorem pairOf_snd_lt (z : Nat) : (pairOf z).2 < 128 := by
  have h3 : z &&& 127 ≤ 127 := Nat.and_le_right
  show z &&& 127 < 128
  omega
theorem bd_prs (zs : List Nat) : Bd (prs zs) := fun p hp => by
  obtain ⟨z, _, rfl⟩ := List.mem_map.1 hp
  have := pairOf_fst_lt z; have := pairOf_snd_lt z; omega
theorem length_prs (zs : List Nat) : (prs zs).length ≤ 50 := by simp [prs]; omega

theorem e_fst (z : Nat) (hz : z < 4294967296) : bits .or .u32 (bits .or .u32 ((z : Int) / 256 % 5 * 65536) ((z : Int) / 4096 % 4 * 256)) (bits .and .u32 ((z : Int) / 16384) 1) = ((pairOf z).1 : Int) := by
  have e : (2 : Nat) ^ 19 = 524288 := by rfl
  have h12 := Nat.or_lt_two_pow (n := 19) (x := z / 256 % 5 * 65536) (y := z / 4096 % 4 * 256) (by rw [e]; omega) (by rw [e]; omega)
  rw [e] at h12
  have h3 : z / 16384 &&& 1 ≤ 1 := Nat.and_le_right
  rw [show (z : Int) / 256 % 5 * 65536 = ((z / 256 % 5 * 65536 : Nat) : Int) by omega, show (z : Int) / 4096 % 4 * 256 = ((z / 4096 % 4 * 256 : Nat) : Int) by omega, show (z : Int) / 16384 = ((z / 16384 : Nat) : Int) by omega,
    u32_or_nat _ _ (by omega) (by omega), show (1 : Int) = ((1 : Nat) : Int) from rfl, u32_and_nat _ _ (by omega) (by omega), u32_or_nat _ _ (by omega) (by omega)]
  rfl
theorem e_snd (z : Nat) (hz : z < 4294967296) : IntKind.u16.wrap (bits .and .u32 (z : Int) 127) = ((pairOf z).2 : Int) := by
  have := pairOf_snd_lt z
  rw [show (127 : Int) = ((127 : Nat) : Int) from rfl, u32_and_nat _ _ hz (by omega), IntKind.wrap_u16]
  show (((z &&& 127 : Nat) : Int)) % 65536 = ((z &&& 127 : Nat) : Int)
  change z &&& 127 < 128 at this
  omega
theorem new_cells (w : World) (i m : Int) (t : TypeId) : (w.alloc (.cells #[.int .u32 i, .int .u16 m] t)).cell? ⟨w.heap.size, 0, none⟩ = some (.int .u32 i) ∧ (w.alloc (.cells #[.int .u32 i, .int .u16 m] t)).cell? ⟨w.heap.size, 1, none⟩ = some (.int .u16 m) := by
  constructor <;> simp
theorem own_empty (w w' : World) (base : Nat) (e : TypeId) (h : w.heap.size = w'.heap.size) (hb : base ≤ w.heap.size) : OwnP e (w.alloc (.cells #[] e)) base (.slice (some ⟨w'.heap.size, 0, none⟩) 0 0) [] := by
  rw [← h]; exact World.ownsRow_lit w #[] 0 hb (by decide) rfl

set_option maxRecDepth 100000 in
theorem setOf_few (g c : Nat) (zs : List Nat) (n : Nat) (w : World) (hln : zs.length = n) (h50 : n ≤ 50) (hc : n ≤ c) (hz : ∀ z ∈ zs, z < 4294967296) (hg : g < w.heap.size)
    (hr : ∀ k z, zs[k]? = some z → w.cell? ⟨g, k, none⟩ = some (.int .u32 (z : Nat))) :
    Calls Try.prog 14 #[.slice (some ⟨g, 0, none⟩) n c] w fun e w' => ∃ v v', e = .returned (.tuple #[v, v']) ∧ v ≠ .slice none 0 0 ∧ v' ≠ .slice none 0 0 ∧ OwnP 43 w' w.heap.size v ((zs.take n).map pairOf) ∧ OwnP 46 w' w.heap.size v' ((zs.take n).map pairOf) ∧ Below w.heap.size w w' := by
  go_enter Try.func14, Try.ntmps14
  go_wp2
  go_loopw [4, 5, 18] (fun v v' i wr => ∃ k : Nat, k ≤ n ∧ i = .int .i64 k ∧ v ≠ .slice none 0 0 ∧ v' ≠ .slice none 0 0 ∧ OwnP 43 wr w.heap.size v ((zs.take k).map pairOf) ∧ OwnP 46 wr w.heap.size v' ((zs.take k).map pairOf) ∧ Below w.heap.size w wr) (fun _ _ i _ => n - (intOf i).toNat)
  case atStart =>
    refine ⟨0, Nat.zero_le _, rfl, by simp, by simp, (own_empty w w w.heap.size 43 rfl (Nat.le_refl _)).alloc _, ?_, ((Below.refl _ _).alloc (Nat.le_refl _) _).alloc (by simp) _⟩
    have := own_empty (w.alloc (.cells #[] 43)) (w.alloc (.cells #[] 43)) w.heap.size 46 rfl (by simp)
    simpa using this
  case round =>
    obtain ⟨k, hk, rfl, hnA, hnB, hA, hB, hnx⟩ := hrel
    by_cases hlt : k < n
    · obtain ⟨z, hzk⟩ : ∃ z, zs[k]? = some z := ⟨zs[k]'(by omega), List.getElem?_eq_getElem (by omega)⟩
      have hzb := hz z (List.mem_of_getElem? hzk)
      have hc : wr.cell? ⟨g, k, none⟩ = some (.int .u32 z) := (hnx.cell (p := ⟨g, k, none⟩) hg).trans (hr k z hzk)
      have HR := Lib.hid (take_snoc hzk)
      have e1 := e_fst z hzb
      have e2 := e_snd z hzb
      obtain ⟨⟨i, m⟩, hp⟩ : ∃ p, pairOf z = p := ⟨_, rfl⟩
      rw [hp] at e1 e2
      have HP := Lib.hid hp
      have hsz := hnx.size
      have hlA : ((zs.take k).map pairOf).length = k := by simp; omega
      have HL := Lib.hid hlA
      have hne : u4.ownBlock = none ∨ u4.ownBlock ≠ u5.ownBlock := own_apart hA hB (by decide)
      have hne' : u5.ownBlock = none ∨ u5.ownBlock ≠ u4.ownBlock := own_apart hB hA (by decide)
      have HN := Lib.hid hne
      have HN' := Lib.hid hne'
      clear hr hzk hp hlA hne hne'
      go_wp2_with (first
        | (at_builtin; refine wpList_app _ rfl (.tmp 38) (.tmp 42) 30 43 rfl Try.underlying30 info43 w.heap.size u4 _ rfl (hA.alloc _) wr.heap.size 1 (i, m) rfl (new_cells _ _ _ _).1 (new_cells _ _ _ _).2 (by rw [HL.out]; omega) (by simp; omega) ?_; intro v1 w1 hA1 hg1 hv1 hn1; have HN1 := Lib.hid hn1; clear hn1; have hw1 := hg1.size)
        | (at_builtin; refine wpList_app _ rfl (.tmp 44) (.tmp 48) 31 46 rfl Try.underlying31 info46 w.heap.size u5 _ rfl (((hB.alloc _).kept hg1 HN'.out).alloc _) w1.heap.size 1 (i, m) rfl (new_cells _ _ _ _).1 (new_cells _ _ _ _).2 (by rw [HL.out]; omega) (by simp at hw1 ⊢; omega) ?_; intro v2 w2 hB2 hg2 hv2 hn2; have HN2 := Lib.hid hn2; clear hn2))
      have hz1 : w.heap.size ≤ w1.heap.size := by simp at hw1; omega
      have HA2 := Lib.hid (((hA1.alloc (.cells #[.int .u32 i, .int .u16 m] 46)).kept hg2 (own_apart (hA1.alloc (.cells #[.int .u32 i, .int .u16 m] 46)) (((hB.alloc _).kept hg1 HN'.out).alloc _) (by decide))))
      have HB2 := Lib.hid hB2
      have HW := Lib.hid ((((hnx.alloc hsz _).grown hg1 (by simp; omega) (fun q hq => (hA.lt q hq).1)).alloc hz1 _).grown hg2 (by simp; omega) (fun q hq => (hB.lt q hq).1))
      clear hA1 hg1 hv1 hB2 hg2 hv2 hA hB
      go_roundw
      case rel => exact ⟨k + 1, by omega, by go_num, HN1.out, HN2.out, by rw [HR.out, List.map_append, List.map_singleton, HP.out]; exact HA2.out, by rw [HR.out, List.map_append, List.map_singleton, HP.out]; exact HB2.out, HW.out⟩
      case measure => simp [intOf]; omega
    · go_wp2_with fail
      obtain rfl : k = n := by omega
      go_ret2
      exact ⟨_, _, rfl, hnA, hnB, hA, hB, hnx⟩

set_option maxRecDepth 100000 in
theorem setOf_many (g c : Nat) (zs : List Nat) (n : Nat) (w : World) (hln : zs.length = n) (h50 : 50 < n) (hc : n ≤ c) (hz : ∀ z ∈ zs, z < 4294967296) (hg : g < w.heap.size)
    (hr : ∀ k z, zs[k]? = some z → w.cell? ⟨g, k, none⟩ = some (.int .u32 (z : Nat))) :
    Calls Try.prog 14 #[.slice (some ⟨g, 0, none⟩) n c] w fun e w' => ∃ v v', e = .returned (.tuple #[v, v']) ∧ v ≠ .slice none 0 0 ∧ v' ≠ .slice none 0 0 ∧ OwnP 43 w' w.heap.size v ((zs.take 50).map pairOf) ∧ OwnP 46 w' w.heap.size v' ((zs.take 50).map pairOf) ∧ Below w.heap.size w w' := by
  have hmx : max (50 : Int) 0 = 50 := by decide
  go_enter Try.func14, Try.ntmps14
  go_wp2
  go_loopw [4, 5, 18] (fun v v' i wr => ∃ k : Nat, k ≤ 50 ∧ i = .int .i64 k ∧ v ≠ .slice none 0 0 ∧ v' ≠ .slice none 0 0 ∧ OwnP 43 wr w.heap.size v ((zs.take k).map pairOf) ∧ OwnP 46 wr w.heap.size v' ((zs.take k).map pairOf) ∧ Below w.heap.size w wr) (fun _ _ i _ => 50 - (intOf i).toNat)
  case atStart =>
    refine ⟨0, Nat.zero_le _, rfl, by simp, by simp, (own_empty w w w.heap.size 43 rfl (Nat.le_refl _)).alloc _, ?_, ((Below.refl _ _).alloc (Nat.le_refl _) _).alloc (by simp) _⟩
    have := own_empty (w.alloc (.cells #[] 43)) (w.alloc (.cells #[] 43)) w.heap.size 46 rfl (by simp)
    simpa using this
  case round =>
    obtain ⟨k, hk, rfl, hnA, hnB, hA, hB, hnx⟩ := hrel
    by_cases hlt : k < 50
    · obtain ⟨z, hzk⟩ : ∃ z, zs[k]? = some z := ⟨zs[k]'(by omega), List.getElem?_eq_getElem (by omega)⟩
      have hzb := hz z (List.mem_of_getElem? hzk)
      have hc : wr.cell? ⟨g, k, none⟩ = some (.int .u32 z) := (hnx.cell (p := ⟨g, k, none⟩) hg).trans (hr k z hzk)
      have HR := Lib.hid (take_snoc hzk)
      have e1 := e_fst z hzb
      have e2 := e_snd z hzb
      obtain ⟨⟨i, m⟩, hp⟩ : ∃ p, pairOf z = p := ⟨_, rfl⟩
      rw [hp] at e1 e2
      have HP := Lib.hid hp
      have hsz := hnx.size
      have hlA : ((zs.take k).map pairOf).length = k := by simp; omega
      have HL := Lib.hid hlA
      have hne : u4.ownBlock = none ∨ u4.ownBlock ≠ u5.ownBlock := own_apart hA hB (by decide)
      have hne' : u5.ownBlock = none ∨ u5.ownBlock ≠ u4.ownBlock := own_apart hB hA (by decide)
      have HN := Lib.hid hne
      have HN' := Lib.hid hne'
      clear hr hzk hp hlA hne hne'
      go_wp2_with (first
        | (at_builtin; refine wpList_app _ rfl (.tmp 38) (.tmp 42) 30 43 rfl Try.underlying30 info43 w.heap.size u4 _ rfl (hA.alloc _) wr.heap.size 1 (i, m) rfl (new_cells _ _ _ _).1 (new_cells _ _ _ _).2 (by rw [HL.out]; omega) (by simp; omega) ?_; intro v1 w1 hA1 hg1 hv1 hn1; have HN1 := Lib.hid hn1; clear hn1; have hw1 := hg1.size)
        | (at_builtin; refine wpList_app _ rfl (.tmp 44) (.tmp 48) 31 46 rfl Try.underlying31 info46 w.heap.size u5 _ rfl (((hB.alloc _).kept hg1 HN'.out).alloc _) w1.heap.size 1 (i, m) rfl (new_cells _ _ _ _).1 (new_cells _ _ _ _).2 (by rw [HL.out]; omega) (by simp at hw1 ⊢; omega) ?_; intro v2 w2 hB2 hg2 hv2 hn2; have HN2 := Lib.hid hn2; clear hn2))
      have hz1 : w.heap.size ≤ w1.heap.size := by simp at hw1; omega
      have HA2 := Lib.hid (((hA1.alloc (.cells #[.int .u32 i, .int .u16 m] 46)).kept hg2 (own_apart (hA1.alloc (.cells #[.int .u32 i, .int .u16 m] 46)) (((hB.alloc _).kept hg1 HN'.out).alloc _) (by decide))))
      have HB2 := Lib.hid hB2
      have HW := Lib.hid ((((hnx.alloc hsz _).grown hg1 (by simp; omega) (fun q hq => (hA.lt q hq).1)).alloc hz1 _).grown hg2 (by simp; omega) (fun q hq => (hB.lt q hq).1))
      clear hA1 hg1 hv1 hB2 hg2 hv2 hA hB
      go_roundw
      case rel => exact ⟨k + 1, by omega, by go_num, HN1.out, HN2.out, by rw [HR.out, List.map_append, List.map_singleton, HP.out]; exact HA2.out, by rw [HR.out, List.map_append, List.map_singleton, HP.out]; exact HB2.out, HW.out⟩
      case measure => simp [intOf]; omega
    · go_wp2_with fail
      obtain rfl : k = 50 := by omega
      go_ret2
      exact ⟨_, _, rfl, hnA, hnB, hA, hB, hnx⟩

/-- setOf: the pairs of the first fifty numbers, twice. -/
theorem setOf_any (g c : Nat) (zs : List Nat) (n : Nat) (w : World) (hln : zs.length = n) (hc : n ≤ c) (hz : ∀ z ∈ zs, z < 4294967296) (hg : g < w.heap.size)
    (hr : ∀ k z, zs[k]? = some z → w.cell? ⟨g, k, none⟩ = some (.int .u32 (z : Nat))) :
    Calls Try.prog 14 #[.slice (some ⟨g, 0, none⟩) n c] w fun e w' => ∃ v v', e = .returned (.tuple #[v, v']) ∧ v ≠ .slice none 0 0 ∧ v' ≠ .slice none 0 0 ∧ OwnP 43 w' w.heap.size v (prs zs) ∧ OwnP 46 w' w.heap.size v' (prs zs) ∧ Below w.heap.size w w' := by
  by_cases h : n ≤ 50
  · have e : prs zs = (zs.take n).map pairOf := by rw [prs, List.take_of_length_le (by omega), List.take_of_length_le (by omega)]
    rw [e]; exact setOf_few g c zs n w hln h hc hz hg hr
  · exact setOf_many g c zs n w hln (by omega) hc hz hg hr

end Go.Proofs.Ytmonokfibldghaa
