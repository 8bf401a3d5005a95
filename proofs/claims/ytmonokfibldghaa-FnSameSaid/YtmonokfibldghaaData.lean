/- Sets of parts of registers as the data that a map of numbers reads as. Conditions: none. -/
import Derived.Maps.Ext
import Derived.Maps.OwnSet
import Derived.Test.YtmonokfibldghaaPlain
namespace Go.Proofs.Ytmonokfibldghaa
open Go.Maps
open Pl
variable {H : Type}

/-- What a map reads as that holds the list. -/
def ent (p : Nat × Nat) : Lit × DataW H := (.int .u32 p.1, .lit (.int .u16 p.2))
def DL (L : PL) : DataW H := .map (L.map ent)

theorem DL_nil : (DL [] : DataW H) = .map [] := rfl
theorem insert_ent (x : Nat × Nat) : ∀ L : PL, DataW.insert (ent (H := H) x) (L.map ent) = (insL x L).map ent
  | [] => rfl
  | y :: r => by
    unfold insL
    simp only [List.map_cons, DataW.insert]
    have : (ent (H := H) x).1.before (ent (H := H) y).1 = decide (x.1 < y.1) := by
      simp [ent, Lit.before]
    rw [this]
    by_cases h : x.1 < y.1
    · simp [h]
    · simp [h, insert_ent x r]
theorem sameKey_ent (p : Nat × Nat) (i : Nat) : (ent (H := H) p).1.sameKey (.int .u32 i) = (p.1 == i) := by
  rw [Bool.eq_iff_iff]; simp [ent, Lit.sameKey]; omega
theorem filter_ent (L : PL) (i : Nat) : (L.map (ent (H := H))).filter (fun p => !p.1.sameKey (.int .u32 i)) = (delL L i).map ent := by
  unfold delL
  rw [List.filter_map]
  congr 1
  refine List.filter_congr fun p _ => ?_
  simp only [Function.comp, sameKey_ent]
theorem DL_put (L : PL) (i v : Nat) : (DL (H := H) L).put (.int .u32 i) (.lit (.int .u16 v)) = DL (putL L i v) := by
  simp only [DL, DataW.put, filter_ent]
  exact congrArg DataW.map (insert_ent (i, v) (delL L i))
theorem DL_del (L : PL) (i : Nat) : (DL (H := H) L).del (.int .u32 i) = DL (delL L i) := by
  simp only [DL, DataW.del, filter_ent]
theorem has_DL (L : PL) (i : Nat) : Maps.has (DL (H := H) L) (.int .u32 i) = hasL L i := by
  simp only [DL, has_eq, List.any_map, hasL]
  congr 1
  funext p
  simp only [Function.comp, sameKey_ent]
theorem has_DL_inv {L : PL} {kl : Lit} (h : Maps.has (DL (H := H) L) kl = true) : ∃ i : Nat, kl = .int .u32 i ∧ hasL L i = true := by
  simp only [DL, has_eq, List.any_eq_true, List.mem_map] at h
  obtain ⟨_, ⟨p, hp, rfl⟩, hs⟩ := h
  refine ⟨p.1, ?_, has_of_mem (v := p.2) hp⟩
  cases kl <;> simp [ent, Lit.sameKey] at hs
  obtain ⟨rfl, rfl⟩ := hs
  rfl
theorem atKey_DL (L : PL) (i : Nat) (z : DataW H) : (DL L).atKey (.int .u32 i) z = if hasL L i = true then .lit (.int .u16 (getL L i)) else z := by
  simp only [DL, DataW.atKey, List.find?_map]
  have : ((fun p : Lit × DataW H => p.1.sameKey (.int .u32 i)) ∘ ent) = fun p => p.1 == i := by
    funext p; simp only [Function.comp, sameKey_ent]
  rw [this]
  cases hf : L.find? (fun p => p.1 == i) with
  | none =>
    have : hasL L i = false := by
      rw [hasL, List.any_eq_false]; intro p hp
      simpa using List.find?_eq_none.1 hf p hp
    simp [this]
  | some p =>
    have h1 : hasL L i = true := by
      simp only [hasL, List.any_eq_true]; exact ⟨p, List.mem_of_find?_eq_some hf, by simpa using List.find?_some hf⟩
    simp [h1, ent, getL, hf]
theorem size_DL (L : PL) : Maps.size (DL (H := H) L) = L.length := by simp [DL, size_eq]

end Go.Proofs.Ytmonokfibldghaa
