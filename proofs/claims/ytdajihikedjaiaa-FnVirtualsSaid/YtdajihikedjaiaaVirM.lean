/- FnVirtuals' map of sizes, laid as the text lays it, and a look into it; two registers' numbers differ. Conditions: none. -/
import Derived.Test.YtdajihikedjaiaaVirD
namespace Go.Proofs.Ytdajihikedjaiaa
open Go.RowKit Go.Maps

theorem law3 : Keyed Try.prog 3 := int_keyed Try.underlying3
theorem zero3 (w : World) : (zeroValue 3).run Try.prog w = .ok (.int .i64 0) w := by kernel_rfl
/-- Block b is such a map. -/
def SzM (w : World) (b n : Nat) (D : DataW Unit) : Prop := w.ownsMap (H := Unit) Try.prog 3 (plainElem Try.prog 3) b n D
theorem up36 {w : World} {b n : Nat} {D : DataW Unit} (h : SzM w b n D) (hn : n < 100) (k v : Int) (hk : (Lit.int .i64 k).wf = true) (hv : (Lit.int .i64 v).wf = true) :
    ∃ w', (Instr.mapUpdate 36 (.map (some b)) (.int .i64 k) (.int .i64 v)).run Try.prog w = .ok () w' ∧ SzM w' b (n + 1) (D.put (.int .i64 k) (.lit (.int .i64 v))) ∧ w.grownBy w' (some b) :=
  World.ownsMap.update h (t := 36) (e := 3) law3 Try.underlying36 (by unfold maxLen; omega) (keyOf_int_mk Try.underlying3 hk) (plainElem_int Try.underlying3 hv)
/-- The map of sizes. -/
def D36 : DataW Unit := ((((((((DataW.map []).put (.int .i64 1) (.lit (.int .i64 1))).put (.int .i64 2) (.lit (.int .i64 1))).put (.int .i64 3) (.lit (.int .i64 2))).put (.int .i64 7) (.lit (.int .i64 4))).put (.int .i64 15) (.lit (.int .i64 8))).put (.int .i64 31) (.lit (.int .i64 16))).put (.int .i64 63) (.lit (.int .i64 32))).put (.int .i64 127) (.lit (.int .i64 64))
def szOk (s : Nat) : Bool := match D36.atKey (.int .i64 (s : Int)) (.lit (.int .i64 0)) with | .lit (.int .i64 c) => c == ((szOf s : Nat) : Int) | _ => false
theorem sz_ok : ([1, 2, 3, 7, 15, 31, 63, 127].all szOk) = true := by decide +kernel
theorem d36_at {s : Nat} (hs : s ∈ [1, 2, 3, 7, 15, 31, 63, 127]) : D36.atKey (.int .i64 (s : Int)) (.lit (.int .i64 0)) = .lit (.int .i64 ((szOf s : Nat) : Int)) := by
  have h := List.all_eq_true.1 sz_ok s hs
  unfold szOk at h
  split at h
  · rename_i c hc
    rw [hc, eq_of_beq h]
  · cases h

theorem lit36 (W : World) (b : Nat) (hb : W.heap.size = b) (s : Nat) (hs : s ∈ [1, 2, 3, 7, 15, 31, 63, 127]) (z : Nat) (hz : szOf s = z) :
    ∃ m1 m2 m3 m4 m5 m6 m7 m8 : World,
      (Instr.mapUpdate 36 (.map (some b)) (.int .i64 1) (.int .i64 1)).run Try.prog (W.alloc (.map #[] 0)) = .ok () m1 ∧
      (Instr.mapUpdate 36 (.map (some b)) (.int .i64 2) (.int .i64 1)).run Try.prog m1 = .ok () m2 ∧
      (Instr.mapUpdate 36 (.map (some b)) (.int .i64 3) (.int .i64 2)).run Try.prog m2 = .ok () m3 ∧
      (Instr.mapUpdate 36 (.map (some b)) (.int .i64 7) (.int .i64 4)).run Try.prog m3 = .ok () m4 ∧
      (Instr.mapUpdate 36 (.map (some b)) (.int .i64 15) (.int .i64 8)).run Try.prog m4 = .ok () m5 ∧
      (Instr.mapUpdate 36 (.map (some b)) (.int .i64 31) (.int .i64 16)).run Try.prog m5 = .ok () m6 ∧
      (Instr.mapUpdate 36 (.map (some b)) (.int .i64 63) (.int .i64 32)).run Try.prog m6 = .ok () m7 ∧
      (Instr.mapUpdate 36 (.map (some b)) (.int .i64 127) (.int .i64 64)).run Try.prog m7 = .ok () m8 ∧
      (Instr.lookup 36 (.map (some b)) (.int .i64 (s : Int)) false).run Try.prog m8 = .ok (.int .i64 (z : Int)) m8 ∧ Below W.heap.size W m8 := by
  subst hb
  have h0 : SzM (W.alloc (.map #[] 0)) W.heap.size 0 (.map []) := World.ownsMap_made _ _ _ _
  obtain ⟨m1, e1, h1, g1⟩ := up36 h0 (by omega) 1 1 rfl rfl
  obtain ⟨m2, e2, h2, g2⟩ := up36 h1 (by omega) 2 1 rfl rfl
  obtain ⟨m3, e3, h3, g3⟩ := up36 h2 (by omega) 3 2 rfl rfl
  obtain ⟨m4, e4, h4, g4⟩ := up36 h3 (by omega) 7 4 rfl rfl
  obtain ⟨m5, e5, h5, g5⟩ := up36 h4 (by omega) 15 8 rfl rfl
  obtain ⟨m6, e6, h6, g6⟩ := up36 h5 (by omega) 31 16 rfl rfl
  obtain ⟨m7, e7, h7, g7⟩ := up36 h6 (by omega) 63 32 rfl rfl
  obtain ⟨m8, e8, h8, g8⟩ := up36 h7 (by omega) 127 64 rfl rfl
  have hr : ∀ k, some W.heap.size = some k → W.heap.size ≤ k := fun k hk => by cases hk; exact Nat.le_refl _
  have b0 : Below W.heap.size W (W.alloc (.map #[] 0)) := (Below.refl _ _).alloc (Nat.le_refl _) _
  have b1 := b0.grown g1 b0.size hr
  have b2 := b1.grown g2 b1.size hr
  have b3 := b2.grown g3 b2.size hr
  have b4 := b3.grown g4 b3.size hr
  have b5 := b4.grown g5 b4.size hr
  have b6 := b5.grown g6 b5.size hr
  have b7 := b6.grown g7 b6.size hr
  have b8 := b7.grown g8 b7.size hr
  obtain ⟨c, hrun, hat, _⟩ := World.ownsMap.lookup_int h8 law3 Try.underlying36 Try.underlying3 (zero3 _) (keyOf_int_mk Try.underlying3 (a := (s : Int)) (by
    simp at hs
    rcases hs with rfl | rfl | rfl | rfl | rfl | rfl | rfl | rfl <;> rfl))
  have hd := d36_at hs
  have hat2 : D36.atKey (.int .i64 (s : Int)) (.lit (.int .i64 0)) = .lit (.int .i64 c) := hat
  rw [hd] at hat2
  simp only [DataW.lit.injEq, Lit.int.injEq, true_and] at hat2
  rw [← hat2, hz] at hrun
  exact ⟨m1, m2, m3, m4, m5, m6, m7, m8, e1, e2, e3, e4, e5, e6, e7, e8, hrun, b8⟩

theorem bits_all : ((List.range 50).all fun a => (List.range 4).all fun k => (bits .and .u32 ((idOf a k : Nat) : Int) 1 == 1) && (bits .and .u32 (((idOf a k : Nat) : Int) / 256) 255 == (k : Int))) = true := by decide +kernel
theorem bits_at {a k i : Nat} (ha : a < 50) (hk : k < 4) (hi : idOf a k = i) : bits .and .u32 (i : Int) 1 = 1 ∧ bits .and .u32 ((i : Int) / 256) 255 = (k : Int) := by
  subst hi
  have h := List.all_eq_true.1 (List.all_eq_true.1 bits_all a (List.mem_range.2 ha)) k (List.mem_range.2 hk)
  simp only [Bool.and_eq_true] at h
  exact ⟨eq_of_beq h.1, eq_of_beq h.2⟩

theorem count_lt {ks : List Nat} {i y K : Nat} (hi : ks[i]? = some K) (hy : i < y) : (ks.take i).count K < (ks.take y).count K := by
  have h1 : ks.take (i + 1) = ks.take i ++ [K] := by rw [List.take_add_one, hi]; rfl
  have h2 : (ks.take (i + 1)).count K = (ks.take i).count K + 1 := by rw [h1, List.count_append]; simp
  have h3 : ks.take (i + 1) = (ks.take y).take (i + 1) := by rw [List.take_take]; congr 1; omega
  have h4 : (ks.take (i + 1)).count K ≤ (ks.take y).count K := by rw [h3]; exact (List.take_sublist _ _).count_le _
  omega
theorem id_ne {ks ss : List Nat} {L : List (Nat × Nat × Nat × ByteArray)} (h : RegsOk ks ss L) {i y : Nat} {x x' : Nat × Nat × Nat × ByteArray} (hk4 : ∀ k ∈ ks, k < 4) (hi : L[i]? = some x) (hy : L[y]? = some x') (hlt : i < y) : idOf x.1 x.2.1 ≠ idOf x'.1 x'.2.1 := by
  obtain ⟨a1, -, a3⟩ := h i x hi
  obtain ⟨b1, -, b3⟩ := h y x' hy
  have c1 := hk4 _ (List.mem_of_getElem? a1)
  have c2 := hk4 _ (List.mem_of_getElem? b1)
  unfold idOf
  intro e
  have e1 : x.2.1 = x'.2.1 := by omega
  have e2 : x.1 = x'.1 := by omega
  rw [e1] at a1 a3
  have := count_lt a1 hlt
  omega

end Go.Proofs.Ytdajihikedjaiaa
