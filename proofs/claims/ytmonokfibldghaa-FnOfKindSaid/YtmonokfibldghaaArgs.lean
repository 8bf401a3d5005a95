/- What came in, as lists of numbers; the pairs that the statements make of them. Conditions: none. -/
import Derived.Test.YtmonokfibldghaaPairs
namespace Go.Proofs.Ytmonokfibldghaa
open Go.RowKit Go.Maps Pl

/-- The slice reads as the numbers ns. -/
def IsL (w : World) (a : Option Addr) (len : Nat) (ns : List Nat) : Prop :=
  ns.length = len ∧ (∀ z ∈ ns, z < 4294967296) ∧ (0 < len → ∃ b off, a = some ⟨b, off, none⟩ ∧ b < w.heap.size ∧ ∀ k z, ns[k]? = some z → w.cell? ⟨b, off + k, none⟩ = some (.int .u32 (z : Nat)))

theorem isL_of {w : World} {a : Option Addr} {len cap : Nat} {zs : List Int}
    (h : (a = none ∧ len = 0 ∧ cap = 0 ∧ zs = []) ∨ ∃ x, a = some x ∧ len ≤ cap ∧ cap ≤ maxLen ∧ zs.length = cap ∧ (∀ i, i < zs.length → w.cell? (x.add i) = some (.int .u32 (zs.getD i 0))) ∧ ∀ n ∈ zs, (Lit.int .u32 n).wf = true) :
    ∃ ns, IsL w a len ns := by
  rcases h with ⟨rfl, rfl, rfl, rfl⟩ | ⟨x, rfl, hl, hm, hz, hc, hw⟩
  · exact ⟨[], rfl, by simp, fun h => by omega⟩
  · have hb : ∀ n ∈ zs, 0 ≤ n ∧ n < 4294967296 := fun n hn => by
      have := hw n hn
      simp [Lit.wf, IntKind.min, IntKind.max, IntKind.bits, IntKind.signed] at this
      omega
    refine ⟨(zs.take len).map Int.toNat, by simp; omega, fun z hz' => ?_, fun hp => ?_⟩
    · obtain ⟨n, hn, rfl⟩ := List.mem_map.1 hz'
      have := hb n (List.mem_of_mem_take hn)
      omega
    · obtain ⟨b, off, spot⟩ := x
      have h0 := hc 0 (by omega)
      have hspot : spot = none := by simpa [Addr.add] using World.cell?_spot h0
      subst hspot
      have hlt : b < w.heap.size := by
        have := World.block_lt_of_cell? w _ h0
        simpa [Addr.add] using this
      refine ⟨b, off, rfl, hlt, fun k z hk => ?_⟩
      rw [List.getElem?_map, List.getElem?_take] at hk
      split at hk
      · rename_i hkl
        have hkz : k < zs.length := by omega
        rw [List.getElem?_eq_getElem hkz] at hk
        simp at hk
        have := hc k hkz
        rw [Addr.add_lit, List.getD_eq_getElem?_getD, List.getElem?_eq_getElem hkz, Option.getD_some] at this
        have hbz := hb zs[k] (List.getElem_mem hkz)
        rw [this, ← hk]
        congr 2
        omega
      · simp at hk

theorem IsL.keep {w w' : World} {a : Option Addr} {len : Nat} {ns : List Nat} (h : IsL w a len ns) (hb : Below w.heap.size w w') : IsL w' a len ns :=
  ⟨h.1, h.2.1, fun hp => by
    obtain ⟨b, off, e, hlt, hc⟩ := h.2.2 hp
    exact ⟨b, off, e, Nat.lt_of_lt_of_le hlt hb.size, fun k z hk => (hb.cell (p := ⟨b, off + k, none⟩) hlt).trans (hc k z hk)⟩⟩

theorem nzN_lt {z : Nat} (h : z < 4294967296) : nzN z < 4294967296 := by
  unfold nzN
  split
  · have e : (2 : Nat) ^ 32 = 4294967296 := by rfl
    have := Nat.or_lt_two_pow (n := 32) (x := z) (y := 1) (by omega) (by omega)
    omega
  · exact h

/-- What 'nonzero' hands on to 'setOf'. -/
theorem handed {w : World} {base n : Nat} {v : Value} {ns : List Nat} (h : w.ownsRow base 38 1 v n ((ns.map nzN).map fun z : Nat => .int .u32 (z : Int))) (hv : v ≠ .slice none 0 0) (hl : ns.length = n) (hb : ∀ z ∈ ns, z < 4294967296) :
    ∃ g c, v = .slice (some ⟨g, 0, none⟩) n c ∧ n ≤ c ∧ g < w.heap.size ∧ (ns.map nzN).length = n ∧ (∀ z ∈ ns.map nzN, z < 4294967296) ∧ ∀ k z, (ns.map nzN)[k]? = some z → w.cell? ⟨g, k, none⟩ = some (.int .u32 (z : Nat)) := by
  obtain ⟨_, ⟨h2, _⟩ | ⟨g, cap, cur, rfl, _, hh, hn, _, _, ht⟩⟩ := h
  · exact absurd h2 hv
  · refine ⟨g, cap, rfl, hn, (Array.getElem?_eq_some_iff.1 hh).1, by simpa using hl, fun z hz => ?_, fun k z hk => ?_⟩
    · obtain ⟨y, hy, rfl⟩ := List.mem_map.1 hz
      exact nzN_lt (hb y hy)
    · have hkl : k < n := by have := (List.getElem?_eq_some_iff.1 hk).1; simp at this; omega
      have := congrArg (fun l => l[k]?) ht
      simp only [List.getElem?_map (f := fun z : Nat => Value.int .u32 (z : Int)), hk, Option.map_some] at this
      rw [List.getElem?_take, if_pos (by omega)] at this
      rw [cell_of_row w g _ cur 38 (0, 0) hh]
      simpa using this

/-- The pairs that the statements make of a list of numbers. -/
def PS (ns : List Nat) : PL := prs (ns.map nzN)
theorem bd_PS (ns : List Nat) : Bd (PS ns) := bd_prs _
theorem length_PS (ns : List Nat) : (PS ns).length ≤ 50 := length_prs _
theorem PS_fst_lt (ns : List Nat) : ∀ p ∈ PS ns, p.1 < 524288 := fun p hp => by
  obtain ⟨z, _, rfl⟩ := List.mem_map.1 hp
  exact pairOf_fst_lt z

/-- A slice of the call's own, not nil, as the callees take it. -/
theorem OwnP.lay {e : TypeId} {w : World} {base : Nat} {v : Value} {l : PL} (h : OwnP e w base v l) (hv : v ≠ .slice none 0 0) : ∃ g c, v = .slice (some ⟨g, 0, none⟩) l.length c ∧ l.length ≤ c ∧ base ≤ g ∧ RowP w w.heap.size (some ⟨g, 0, none⟩) l := by
  obtain ⟨A, c0, e0, hr⟩ := h.form
  obtain ⟨_, ⟨h2, _⟩ | ⟨g, cap, cur, h2, hb, hh, hn, _⟩⟩ := h
  · exact absurd h2 hv
  · rw [e0] at h2
    simp only [Value.slice.injEq] at h2
    obtain ⟨rfl, _, rfl⟩ := h2
    exact ⟨g, c0, e0, hn, hb, hr⟩

end Go.Proofs.Ytmonokfibldghaa
