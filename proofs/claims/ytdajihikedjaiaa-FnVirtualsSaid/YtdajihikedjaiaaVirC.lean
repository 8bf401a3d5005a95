/- FnVirtuals' callees: the collection of counts, and a new register out of it. Conditions: as stated. -/
import Derived.Test.YtdajihikedjaiaaVirB
namespace Go.Proofs.Ytdajihikedjaiaa
open Go.RowKit Go.Maps

theorem law49 : Keyed Try.prog 49 := int_keyed Try.underlying49
theorem zero66 (w : World) : (zeroValue 66).run Try.prog w = .ok (.int .u16 0) w := by kernel_rfl
theorem wf_u8 {i : Nat} (h : i < 256) : (Lit.int .u8 (i : Int)).wf = true := by
  simp [Lit.wf, IntKind.min, IntKind.max, IntKind.bits, IntKind.signed]; omega
theorem wf_u16 {i : Nat} (h : i < 65536) : (Lit.int .u16 (i : Int)).wf = true := by
  simp [Lit.wf, IntKind.min, IntKind.max, IntKind.bits, IntKind.signed]; omega

/-- Block b is the map of counts. -/
def CntIs (w : World) (b n : Nat) (cnt : Nat → Nat) : Prop :=
  ∃ D, w.ownsMap (H := Unit) Try.prog 49 (plainElem Try.prog 66) b n D ∧ IsMap D ∧ ∀ k : Nat, k < 4 → D.atKey (.int .u8 (k : Int)) (.lit (.int .u16 0)) = .lit (.int .u16 (cnt k : Nat))
theorem CntIs.kept {w w' : World} {b n : Nat} {cnt : Nat → Nat} {row : Option Nat} (h : CntIs w b n cnt) (hg : w.grownBy w' row) (hne : some b ≠ row) : CntIs w' b n cnt := by
  obtain ⟨D, h1, h2, h3⟩ := h
  exact ⟨D, World.ownsMap.kept h1 hg hne, h2, h3⟩
theorem CntIs.below {w w' : World} {b n : Nat} {cnt : Nat → Nat} (h : CntIs w b n cnt) (hb : Below w.heap.size w w') : CntIs w' b n cnt :=
  h.kept (row := none) ⟨hb.os, hb.tape, hb.output, hb.size, fun i hi _ => hb.block i hi⟩ (by simp)
theorem CntIs.lt {w : World} {b n : Nat} {cnt : Nat → Nat} (h : CntIs w b n cnt) : b < w.heap.size := by
  obtain ⟨D, h1, -⟩ := h
  exact World.ownsMap.lt h1
theorem CntIs.look {w : World} {b n k : Nat} {cnt : Nat → Nat} (h : CntIs w b n cnt) (hk : k < 4) : (Instr.lookup 55 (.map (some b)) (.int .u8 (k : Int)) false).run Try.prog w = .ok (.int .u16 (cnt k : Nat)) w := by
  obtain ⟨D, h1, -, h3⟩ := h
  obtain ⟨c, hrun, hat, _⟩ := World.ownsMap.lookup_int h1 law49 Try.underlying55 Try.underlying66 (zero66 _) (keyOf_int_mk Try.underlying49 (wf_u8 (i := k) (by omega)))
  rw [h3 k hk] at hat
  simp only [DataW.lit.injEq, Lit.int.injEq, true_and] at hat
  rw [hat]
  exact hrun
theorem CntIs.put {w : World} {b n k : Nat} {cnt : Nat → Nat} (h : CntIs w b n cnt) (hk : k < 4) (hn : n < 1000) (hc : cnt k < 1000) :
    ∃ w', (Instr.mapUpdate 55 (.map (some b)) (.int .u8 (k : Int)) (.int .u16 ((cnt k + 1 : Nat) : Int))).run Try.prog w = .ok () w' ∧ CntIs w' b (n + 1) (fun j => if j = k then cnt k + 1 else cnt j) ∧ w.grownBy w' (some b) := by
  obtain ⟨D, h1, h2, h3⟩ := h
  obtain ⟨w', hrun, o2, g2⟩ := h1.update (t := 55) (e := 66) law49 Try.underlying55 (by unfold maxLen; omega) (key := .int .u8 (k : Int)) (val := .int .u16 ((cnt k + 1 : Nat) : Int)) (kl := .int .u8 (k : Int)) (d := .lit (.int .u16 ((cnt k + 1 : Nat) : Int))) (ps := []) (keyOf_int_mk Try.underlying49 (wf_u8 (i := k) (by omega))) (plainElem_int Try.underlying66 (wf_u16 (by omega)))
  refine ⟨w', hrun, ⟨_, o2, h2.put _ _, fun j hj => ?_⟩, g2⟩
  dsimp only
  by_cases hjk : j = k
  · subst hjk
    rw [if_pos rfl]
    exact atKey_put_same h2 (k := .int .u8 (j : Int)) (show WideAt.IsKeyLit (.int .u8 (j : Int)) from True.intro) _ _
  · rw [if_neg hjk, atKey_put_other (by intro e; simp only [Lit.int.injEq, true_and] at e; omega)]
    exact h3 j hj

theorem col_any (w : World) : Calls Try.prog 9 #[] w fun e w' => ∃ g b, e = .returned (.pointer (some ⟨g, 0, none⟩)) ∧ w.heap.size ≤ g ∧ g < w'.heap.size ∧ w.heap.size ≤ b ∧ g ≠ b ∧ w'.cell? ⟨g, 0, none⟩ = some (.map (some b)) ∧ CntIs w' b 0 (fun _ => 0) ∧ Below w.heap.size w w' := by
  have hmm := @run_makeMap Try.prog
  go_enter Try.func9, Try.ntmps9
  go_wp2_with fail
  go_ret
  refine ⟨w.heap.size + 1, w.heap.size, by simp, by omega, by simp, Nat.le_refl _, by omega, by simp, ?_, ((Below.refl _ _).alloc (Nat.le_refl _) _).alloc (by simp) _⟩
  exact ⟨.map [], World.ownsMap.alloc (World.ownsMap_made _ _ _ _) _, isMap_empty, fun k _ => rfl⟩

set_option maxRecDepth 100000 in
theorem vreg_any (g b n k s : Nat) (cnt : Nat → Nat) (w : World) (hg : w.cell? ⟨g, 0, none⟩ = some (.map (some b))) (h : CntIs w b n cnt) (hk : k < 4) (hn : n < 1000) (hc : cnt k < 1000) :
    Calls Try.prog 11 #[.pointer (some ⟨g, 0, none⟩), .int .u8 (k : Int), .int .u16 (s : Int)] w fun e w' => e = .returned (vReg (cnt k) k s) ∧ CntIs w' b (n + 1) (fun j => if j = k then cnt k + 1 else cnt j) ∧ w.grownBy w' (some b) := by
  unfold vReg
  have hl := h.look hk
  obtain ⟨w2, hrun, o2, g2⟩ := h.put hk hn hc
  have H2 := Lib.hid o2
  have G2 := Lib.hid g2
  obtain ⟨c, hcc⟩ : ∃ c, cnt k = c := ⟨_, rfl⟩
  rw [hcc] at hl hrun hc H2
  rw [hcc]
  rw [show ((c + 1 : Nat) : Int) = (c : Int) + 1 by omega] at hrun
  clear h hcc o2 g2
  go_enter Try.func11, Try.ntmps11
  go_wp2_with (first
    | (go_at_call 13; refine (virt_any _ _ _ _).mono ?_; rintro e w' ⟨rfl, rfl⟩))
  go_ret
  exact ⟨rfl, H2.out, G2.out⟩

end Go.Proofs.Ytdajihikedjaiaa
