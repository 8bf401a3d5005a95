/- Walk of FnSize, all lists. Conditions: none. -/
import Derived.Test.YtjmmfhgdjndabaaRRSizeF
namespace Go.Proofs.YtjmmfhgdjndabaaRR
open Go.RowKit

theorem isB_of {w : World} {a : Option Addr} {len cap : Nat} {zs : List Int}
    (h : (a = none ∧ len = 0 ∧ cap = 0 ∧ zs = []) ∨ ∃ x, a = some x ∧ len ≤ cap ∧ cap ≤ maxLen ∧ zs.length = cap ∧ (∀ i, i < zs.length → w.cell? (x.add i) = some (.int .u8 (zs.getD i 0))) ∧ ∀ n ∈ zs, (Lit.int .u8 n).wf = true) :
    (∃ ns, IsB w a len ns) ∧ len ≤ cap ∧ (a = none → cap = 0) := by
  rcases h with ⟨rfl, rfl, rfl, rfl⟩ | ⟨x, rfl, hl, hm, hz, hc, hw⟩
  · exact ⟨⟨[], rfl, by simp, fun h => by omega⟩, Nat.le_refl _, fun _ => rfl⟩
  · have hb : ∀ n ∈ zs, 0 ≤ n ∧ n < 256 := fun n hn => by
      have := hw n hn
      simp [Lit.wf, IntKind.min, IntKind.max, IntKind.bits, IntKind.signed] at this
      omega
    refine ⟨⟨(zs.take len).map Int.toNat, by simp; omega, fun z hz' => ?_, fun hp => ?_⟩, hl, fun h => by cases h⟩
    · obtain ⟨n, hn, rfl⟩ := List.mem_map.1 hz'
      have := hb n (List.mem_of_mem_take hn)
      omega
    · obtain ⟨b, off, spot⟩ := x
      have h0 := hc 0 (by omega)
      have hspot : spot = none := by simpa [Addr.add] using World.cell?_spot h0
      subst hspot
      have hlt : b < w.heap.size := by
        have := World.block_lt_of_cell? w _ h0
        simpa [Addr.add] using this
      refine ⟨b, off, rfl, hlt, fun k z hk => ?_⟩
      rw [List.getElem?_map, List.getElem?_take] at hk
      split at hk
      · rename_i hkl
        have hkz : k < zs.length := by omega
        rw [List.getElem?_eq_getElem hkz] at hk
        simp at hk
        have := hc k hkz
        rw [Addr.add_lit, List.getD_eq_getElem?_getD, List.getElem?_eq_getElem hkz, Option.getD_some] at this
        have hbz := hb zs[k] (List.getElem_mem hkz)
        rw [this, ← hk]
        congr 2
        omega
      · simp at hk

set_option maxHeartbeats 1000000 in
set_option maxRecDepth 100000 in
theorem fnSize_zero (A : Option Addr) (c : Nat) (A' : Option Addr) (n' c' : Nat) (w : World) (hA : A = none → c = 0) (hn' : n' ≤ 100) (hn0' : 0 < n') :
    Calls Try.prog 3 #[.slice A 0 c, .slice A' n' c'] w fun e w' => e = .returned (.bool true) ∧ Below w.heap.size w w' := by
  have d2 : decide (2147483647 < (n' : Int)) = false := decide_eq_false (by omega)
  have d3 : ((n' : Int) == 0) = false := by simp; omega
  have d4 : decide (100 < (n' : Int)) = false := decide_eq_false (by omega)
  have HS := Lib.hid (fun (W : World) (B : Nat) => size_any (some ⟨B, 0, none⟩) 0 [] W (fun h => absurd h (by decide)) (by decide) (fun y hy => by cases hy) (fun y hy => by cases hy))
  cases A with
  | none =>
    obtain rfl := hA rfl
    go_enter Try.func3, Try.ntmps3
    go_wp2_with fail
    go_loopw [5, 6, 7, 8, 46] (fun v ms rt v' i wr => v = .slice (some ⟨w.heap.size, 0, none⟩) 0 0 ∧ ms = .int .i64 0 ∧ rt = .bool true ∧ i = .int .i64 0 ∧ Below w.heap.size w wr) (fun _ _ _ _ _ _ => 0)
    case atStart => exact ⟨rfl, rfl, rfl, rfl, ((Below.refl _ _).alloc (Nat.le_refl _) _).alloc (by simp) _⟩
    case round =>
      obtain ⟨rfl, rfl, rfl, rfl, bel⟩ := hrel
      go_wp2_with fail
      refine (HS.out _ _).mono ?_
      rintro e w1 (⟨-, rfl, hb1⟩ | ⟨hr, -⟩)
      · have F := bel.trans (hb1.mono bel.size)
        have hm : ((mostK (PK []) ([] : List (Nat × Nat × Nat)).length : Nat) : Int) = 0 := rfl
        rw [hm]
        clear hb1 hm
        go_wp2_with fail
        refine (twice_any _).mono ?_
        rintro e w2 ⟨rfl, hb2⟩
        have F2 := F.trans (hb2.mono F.size)
        clear hb2
        go_wp2
        go_ret
        exact ⟨rfl, F2⟩
      · exact absurd hr (by decide)
  | some x =>
    go_enter Try.func3, Try.ntmps3
    go_wp2_with fail
    go_loopw [5, 6, 7, 8, 46] (fun v ms rt v' i wr => v = .slice (some ⟨w.heap.size, 0, none⟩) 0 0 ∧ ms = .int .i64 0 ∧ rt = .bool true ∧ i = .int .i64 0 ∧ Below w.heap.size w wr) (fun _ _ _ _ _ _ => 0)
    case atStart => exact ⟨rfl, rfl, rfl, rfl, ((Below.refl _ _).alloc (Nat.le_refl _) _).alloc (by simp) _⟩
    case round =>
      obtain ⟨rfl, rfl, rfl, rfl, bel⟩ := hrel
      go_wp2_with fail
      refine (HS.out _ _).mono ?_
      rintro e w1 (⟨-, rfl, hb1⟩ | ⟨hr, -⟩)
      · have F := bel.trans (hb1.mono bel.size)
        have hm : ((mostK (PK []) ([] : List (Nat × Nat × Nat)).length : Nat) : Int) = 0 := rfl
        rw [hm]
        clear hb1 hm
        go_wp2_with fail
        refine (twice_any _).mono ?_
        rintro e w2 ⟨rfl, hb2⟩
        have F2 := F.trans (hb2.mono F.size)
        clear hb2
        go_wp2
        go_ret
        exact ⟨rfl, F2⟩
      · exact absurd hr (by decide)

theorem fnSize_early (A : Option Addr) (n c : Nat) (A' : Option Addr) (n' c' : Nat) (w : World) (h : 2147483647 < n ∨ (n ≤ 2147483647 ∧ 2147483647 < n')) :
    Calls Try.prog 3 #[.slice A n c, .slice A' n' c'] w fun e w' => e = .returned (.bool true) ∧ Below w.heap.size w w' := by
  rcases h with h | ⟨h1, h2⟩
  · have d1 : decide (2147483647 < (n : Int)) = true := decide_eq_true (by omega)
    go_enter Try.func3, Try.ntmps3
    go_wp2
    go_ret
    exact ⟨rfl, Below.refl _ _⟩
  · have d1 : decide (2147483647 < (n : Int)) = false := decide_eq_false (by omega)
    have d2 : decide (2147483647 < (n' : Int)) = true := decide_eq_true (by omega)
    go_enter Try.func3, Try.ntmps3
    go_wp2
    go_ret
    exact ⟨rfl, Below.refl _ _⟩

theorem fnSize_out (A : Option Addr) (n c : Nat) (A' : Option Addr) (n' c' : Nat) (w : World) (h1 : n ≤ 2147483647) (h2 : n' ≤ 2147483647) (h : n' = 0 ∨ 100 < n' ∨ (0 < n' ∧ n' ≤ 100 ∧ 100 < n)) :
    Calls Try.prog 3 #[.slice A n c, .slice A' n' c'] w fun e w' => e = .returned (.bool true) ∧ Below w.heap.size w w' := by
  have d1 : decide (2147483647 < (n : Int)) = false := decide_eq_false (by omega)
  have d2 : decide (2147483647 < (n' : Int)) = false := decide_eq_false (by omega)
  rcases h with rfl | h | ⟨h0, h3, h4⟩
  · go_enter Try.func3, Try.ntmps3
    go_wp2
    go_ret
    exact ⟨rfl, Below.refl _ _⟩
  · have d3 : ((n' : Int) == 0) = false := by simp; omega
    have d4 : decide (100 < (n' : Int)) = true := decide_eq_true (by omega)
    go_enter Try.func3, Try.ntmps3
    go_wp2
    go_ret
    exact ⟨rfl, Below.refl _ _⟩
  · have d3 : ((n' : Int) == 0) = false := by simp; omega
    have d4 : decide (100 < (n' : Int)) = false := decide_eq_false (by omega)
    have d5 : decide (100 < (n : Int)) = true := decide_eq_true (by omega)
    go_enter Try.func3, Try.ntmps3
    go_wp2
    go_ret
    exact ⟨rfl, Below.refl _ _⟩

theorem fnSize_all (A : Option Addr) (n c : Nat) (ps : List Nat) (A' : Option Addr) (n' c' : Nat) (ks : List Nat) (w : World) (hp : IsB w A n ps) (hle : n ≤ c) (hA : A = none → c = 0) (hk : IsB w A' n' ks) :
    Calls Try.prog 3 #[.slice A n c, .slice A' n' c'] w fun e w' => e = .returned (.bool true) ∧ Below w.heap.size w w' := by
  by_cases h1 : 2147483647 < n ∨ (n ≤ 2147483647 ∧ 2147483647 < n')
  · exact fnSize_early A n c A' n' c' w h1
  by_cases h2 : n' = 0 ∨ 100 < n' ∨ (0 < n' ∧ n' ≤ 100 ∧ 100 < n)
  · exact fnSize_out A n c A' n' c' w (by omega) (by omega) h2
  by_cases h3 : n = 0
  · subst h3
    exact fnSize_zero A c A' n' c' w hA (by omega) (by omega)
  have q1 : n ≤ 100 := by omega
  have q2 : 0 < n := by omega
  have q3 : n' ≤ 100 := by omega
  have q4 : 0 < n' := by omega
  obtain ⟨hl, hb, hr⟩ := hp
  obtain ⟨hl', hb', hr'⟩ := hk
  obtain ⟨b, off, rfl, hlt, hc⟩ := hr q2
  obtain ⟨b', off', rfl, hlt', hc'⟩ := hr' q4
  by_cases h4 : n ≤ 20
  · exact fnSize_few b off n c b' off' n' c' ps ks w q1 q2 hle q3 q4 h4 hl hl' hb hb' hlt hlt' hc hc'
  · exact fnSize_many b off n c b' off' n' c' ps ks w q1 q2 hle q3 q4 (Nat.lt_of_not_le h4) hl hl' hb hb' hlt hlt' hc hc'

end Go.Proofs.YtjmmfhgdjndabaaRR
