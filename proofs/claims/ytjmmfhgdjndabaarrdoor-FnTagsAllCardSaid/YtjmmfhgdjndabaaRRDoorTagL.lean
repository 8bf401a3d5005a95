/- Walk of FnTags. Conditions: the library's table lies as it is laid. -/
import Derived.Test.YtjmmfhgdjndabaaRRDoorTagT
namespace Go.Proofs.YtjmmfhgdjndabaaRRDoor
open Go.RowKit Go.Maps

theorem okc_con (l : List Nat) (m : Nat) (hm : m ≤ 6) : OkC (con l m) := by
  refine ⟨by unfold con; simp; omega, fun o ho => ?_⟩
  unfold con at ho
  obtain ⟨i, -, rfl⟩ := List.mem_map.1 ho
  exact ⟨⟨opt_len _ _, opt_x _ _⟩, opt_ne _ _⟩
theorem con_ne (l : List Nat) (m : Nat) (hm : 0 < m) : con l m ≠ [] := by
  intro h
  have := congrArg List.length h
  simp [con] at this
  omega

set_option maxRecDepth 100000 in
theorem fnTags_out (a : Option Addr) (n c : Nat) (t : Int) (w : World) (h : 100 < n ∨ n = 0) :
    Calls Tryd.prog 5 #[.slice a n c, .int .u8 t] w fun e w' => e = .returned (.bool true) ∧ Below w.heap.size w w' := by
  by_cases h1 : (2147483647 : Int) < (n : Int)
  · go_enter Tryd.func5, Tryd.ntmps5
    go_wp2_with fail
    go_ret
    exact ⟨rfl, Below.refl _ _⟩
  · rcases h with h | rfl
    · have h0 : ((n : Int) == 0) = false := beq_eq_false_iff_ne.2 (by omega)
      have h2 : (100 : Int) < (n : Int) := by omega
      go_enter Tryd.func5, Tryd.ntmps5
      go_wp2_with fail
      go_ret
      exact ⟨rfl, Below.refl _ _⟩
    · go_enter Tryd.func5, Tryd.ntmps5
      go_wp2_with fail
      go_ret
      exact ⟨rfl, Below.refl _ _⟩

set_option maxHeartbeats 1000000 in
set_option maxRecDepth 100000 in
theorem fnTags_few (b off n cap : Nat) (l : List Nat) (tags : Nat) (htg : tags < 256) (w : World) (hlt : b < w.heap.size) (hn : l.length = n) (h0 : 0 < n) (h100 : n ≤ 100) (hnc : n ≤ cap)
    (hcell : ∀ (k z : Nat), l[k]? = some z → w.cell? ⟨b, off + k, none⟩ = some (.int .u8 (z : Int))) (h256 : ∀ z ∈ l, z < 256) (hT : TabP w) :
    Calls Tryd.prog 5 #[.slice (some ⟨b, off, none⟩) n cap, .int .u8 (tags : Int)] w fun e w' => e = .returned (.bool true) ∧ Below w.heap.size w w' := by
  obtain ⟨m, hm⟩ : ∃ m, min n 6 = m := ⟨_, rfl⟩
  have hm6 : m ≤ 6 := by omega
  have hm0 : 0 < m := by omega
  have H10 := Lib.hid (termsOf_any b off n cap l tags htg w hlt hn h0 h100 hnc hcell h256 m hm)
  have HOK := Lib.hid (okc_con l m hm6)
  have HNE := Lib.hid (con_ne l m hm0)
  have HT := Lib.hid hT
  clear hn hcell h256 hm hT
  obtain ⟨c, hc⟩ : ∃ c, con l m = c := ⟨_, rfl⟩
  rw [hc] at H10 HOK HNE
  clear hc
  have HCV : Hid (∀ (A : Option Addr) (cT k : Nat) (W : World), TabP W → RowR cellsU 1 W A (TG tags 6) → (TG tags 6).length = k → Calls Tryd.prog 11 #[.string ⟨(ct c).toArray⟩, .slice A k cT] W fun e w' => e = .returned (.tuple #[.string ⟨(goC c).toArray⟩, .bool (cv tags c), .bool true]) ∧ Below W.heap.size W w') :=
    Lib.hid (fun A cT k W h1 h2 h3 => implTags_any A cT k c HNE.out HOK.out tags htg W h1 h2 h3)
  have HLN := ct_len HOK.out.1 (fun o ho => (HOK.out.2 o ho).1.1)
  obtain ⟨S, hS⟩ : ∃ S : ByteArray, ⟨(ct c).toArray⟩ = S := ⟨_, rfl⟩
  obtain ⟨G, hG⟩ : ∃ G : ByteArray, ⟨(goC c).toArray⟩ = G := ⟨_, rfl⟩
  have heq : (⟨#[47, 47, 32, 43, 98, 117, 105, 108, 100, 32]⟩ : ByteArray) ++ S ++ ⟨#[10]⟩ = G := by
    rw [← hS, ← hG]
    apply ByteArray.ext
    apply Array.ext'
    simp [goC]
  have HEQ := Lib.hid heq
  have hSs : S.size ≤ 200 := by rw [← hS]; simp [ByteArray.size]; omega
  obtain ⟨V, hV⟩ : ∃ V, cv tags c = V := ⟨_, rfl⟩
  rw [hS, hG, hV] at HCV
  rw [hS, hV] at H10
  clear hS hG hV heq HLN HNE HOK
  have h1 : ¬ (2147483647 : Int) < (n : Int) := by omega
  have h2 : ((n : Int) == 0) = false := beq_eq_false_iff_ne.2 (by omega)
  have h3 : ¬ (100 : Int) < (n : Int) := by omega
  go_enter Tryd.func5, Tryd.ntmps5
  go_wp2_with fail
  refine H10.out.mono ?_
  rintro e w1 ⟨rfl, bel1⟩
  have HB1 := Lib.hid bel1
  have H12 := Lib.hid (tagsOf_any tags w1 htg)
  clear bel1
  go_wp2_with fail
  refine H12.out.mono ?_
  rintro e w2 ⟨v2, rfl, hown2, bel2⟩
  have HB2 := Lib.hid (HB1.out.trans (bel2.mono HB1.out.size))
  obtain ⟨A2, c2, e2, hr2⟩ := hown2.form len_cellsU
  have H11 := Lib.hid (HCV.out A2 c2 (TG tags 6).length w2 (HT.out.below HB2.out) hr2 rfl)
  obtain ⟨q, hq⟩ : ∃ q, (TG tags 6).length = q := ⟨_, rfl⟩
  rw [hq] at e2 H11
  subst e2
  clear bel2 hown2 hr2 hq
  go_wp2_with fail
  refine H11.out.mono ?_
  rintro e w3 ⟨rfl, bel3⟩
  have HB3 := Lib.hid (HB2.out.trans (bel3.mono HB2.out.size))
  clear bel3
  go_wp2_with fail
  go_ret
  refine ⟨?_, HB3.out⟩
  rw [HEQ.out, beq_self_eq_true]
  rfl

end Go.Proofs.YtjmmfhgdjndabaaRRDoor
