/- Walks of the attributes' text and of whether it asks for the names' file. Conditions: the library's table lies as it is laid; twelve bits, the eighth not set. -/
import Derived.Test.YtjmmfhgdjndabaaRRDoorAttrS
import Derived.Test.YtjmmfhgdjndabaaRRDoorShA
namespace Go.Proofs.YtjmmfhgdjndabaaRRDoor
open Go.RowKit Go.Maps

/-- The attributes' text. -/
def AN (a : Nat) : List UInt8 := if NB a 12 = [] then [48] else JN a 12

theorem rows_texts {w : World} {base : Nat} {A : Option Addr} {n c : Nat} {l : List (List UInt8)} (h : OwnR cellsT 1 9 w base (.slice A n c) l) (h0 : 0 < l.length) :
    ∃ g, A = some ⟨g, 0, none⟩ ∧ g < w.heap.size ∧ l.length ≤ c ∧ ∀ (j : Nat) x, (l.map fun s => (⟨s.toArray⟩ : ByteArray))[j]? = some x → w.cell? ⟨g, 0 + j, none⟩ = some (.string x) := by
  have hc : l.length ≤ c := by
    rcases h.2 with ⟨h1, h2⟩ | ⟨g, cap, cur, h1, h2, h3, h4, _⟩
    · omega
    · simp only [Value.slice.injEq] at h1
      omega
  obtain ⟨A', c', e', hr⟩ := h.form len_cellsT
  simp only [Value.slice.injEq] at e'
  obtain ⟨rfl, -, -⟩ := e'
  obtain ⟨g, rfl, hg, hx⟩ := hr h0
  refine ⟨g, rfl, hg, hc, fun j x hj => ?_⟩
  rw [List.getElem?_map] at hj
  obtain ⟨s, hs, rfl⟩ := Option.map_eq_some_iff.1 hj
  have := hx j s hs 0 _ rfl
  rw [Nat.mul_one, Nat.add_zero] at this
  rw [Nat.zero_add]
  exact this

theorem join_any {w : World} {base : Nat} {A : Option Addr} {n c : Nat} {l : List (List UInt8)} (h : OwnR cellsT 1 9 w base (.slice A n c) l) (hn : n = l.length) (h0 : 0 < l.length) (hl : l.length ≤ 1000) (hj : (Lib.join l [124]).length ≤ 100000) :
    Calls Tryd.prog 31 #[.slice A n c, .string ⟨#[124]⟩] w fun e w' => e = .returned (.string ⟨(Lib.join l [124]).toArray⟩) ∧ Below w.heap.size w w' := by
  obtain ⟨g, rfl, hg, hc, hx⟩ := rows_texts h h0
  have e1 : (l.map fun s => (⟨s.toArray⟩ : ByteArray)).length = l.length := by simp
  have e2 : (l.map fun s => (⟨s.toArray⟩ : ByteArray)).map (·.data.toList) = l := by simp [List.map_map, Function.comp_def]
  have := Tryd.strings_Join g 0 c (l.map fun s => (⟨s.toArray⟩ : ByteArray)) ⟨#[124]⟩ w hx hg (by rw [e1]; omega) (by rw [e1]; exact hc) (by rw [e2]; exact Nat.le_trans hj (by decide))
  rw [e1, e2] at this
  rw [hn]
  exact this

set_option maxRecDepth 100000 in
theorem attrAsm_any (a : Nat) (w : World) (ha : Good a) (hT : TabT w) (hs : 0 < w.heap.size) :
    Calls Tryd.prog 18 #[.int .u16 (a : Int)] w fun e w' => e = .returned (.string ⟨(AN a).toArray⟩) ∧ Below w.heap.size w w' := by
  have HSP := Lib.hid (split_any a w ha hT hs)
  have HLEN := Lib.hid (NB_len a 12)
  have HJ := Lib.hid (JN_len a 12)
  clear ha hT hs
  go_enter Tryd.func18, Tryd.ntmps18
  go_wp2_with fail
  refine HSP.out.mono ?_
  rintro e w1 ⟨v, rfl, ho, hb⟩
  obtain ⟨A, c, rfl, -⟩ := ho.form len_cellsT
  have hz := hb.size
  by_cases h0 : NB a 12 = []
  · have hAN : AN a = [48] := if_pos h0
    have HAN := Lib.hid hAN
    rw [h0] at ho
    rw [h0]
    have HO := Lib.hid (ho.alloc (.cells #[.string ⟨#[48]⟩] 9))
    have HN : Hid (∀ j u, (cellsT [48])[j]? = some u → (w1.alloc (.cells #[.string ⟨#[48]⟩] 9)).cell? ⟨w1.heap.size, j, none⟩ = some u) := Lib.hid (by
      intro j u hu
      match j, hu with
      | 0, hu => simp [cellsT] at hu; subst hu; simp)
    have HZ : Hid (w.heap.size ≤ (w1.alloc (.cells #[.string ⟨#[48]⟩] 9)).heap.size) := Lib.hid (by simp; omega)
    have HB := Lib.hid hb
    have HI : Hid (∀ W : World, Calls Tryd.prog 30 #[.int .i64 0] W fun e w' => e = .returned (.string ⟨#[48]⟩) ∧ w' = W) := Lib.hid (fun W => by
      have h := Tryd.strconv_Itoa_small 0 (by decide) W
      have e : Lib.decDigits 0 = [48] := by decide +kernel
      rw [e] at h
      exact h)
    clear ho hb h0 hAN
    go_wp2_with fail
    refine (HI.out _).mono ?_
    rintro e w2 ⟨rfl, rfl⟩
    go_wp2_with ((at_builtin; (refine wpList_app1 _ rfl len_cellsT one_cellsT (by decide) 16 _ rfl (by decide) (.tmp 17) (.tmp 21) 33 9 rfl Tryd.underlying33 info9 w.heap.size (.slice A 0 c) [] rfl HO.out w2.heap.size 1 [48] rfl HN.out (by decide) HZ.out ?_); intro v3 w3 h3 g3 o3 n3; obtain ⟨A3, c3, rfl, -⟩ := h3.form len_cellsT))
    have HB3 := Lib.hid ((HB.out.alloc HB.out.size _).grown g3 HZ.out HO.out.le)
    have HC := Lib.hid (join_any h3 rfl (by simp) (by simp) (by decide))
    clear h3 g3 o3 n3
    refine HC.out.mono ?_
    rintro e w4 ⟨rfl, hb4⟩
    go_wp2
    go_ret
    exact ⟨by rw [HAN.out]; rfl, HB3.out.trans (hb4.mono HB3.out.size)⟩
  · have hAN : AN a = JN a 12 := if_neg h0
    have HAN := Lib.hid hAN
    have hlen : 0 < (NB a 12).length := by
      cases h : NB a 12 with
      | nil => exact absurd h h0
      | cons x r => simp
    have HC := Lib.hid (join_any ho rfl hlen (by have := HLEN.out; omega) (by have := HJ.out; unfold JN at this; omega))
    have HB := Lib.hid hb
    obtain ⟨n, hn⟩ : ∃ n, (NB a 12).length = n := ⟨_, rfl⟩
    rw [hn] at HC hlen ⊢
    have hne : ((n : Int) == 0) = false := by simp; omega
    clear ho hb h0 hAN hn
    go_wp2_with fail
    refine HC.out.mono ?_
    rintro e w2 ⟨rfl, hb2⟩
    go_wp2
    go_ret
    exact ⟨by rw [HAN.out]; rfl, HB.out.trans (hb2.mono HB.out.size)⟩

theorem attrAsk_any (a : Nat) (w : World) (ha : Good a) (hT : TabT w) (hs : 0 < w.heap.size) :
    Calls Tryd.prog 19 #[.int .u16 (a : Int)] w fun e w' => e = .returned (.bool (!(NB a 12).isEmpty)) ∧ Below w.heap.size w w' := by
  have HSP := Lib.hid (split_any a w ha hT hs)
  clear ha hT hs
  go_enter Tryd.func19, Tryd.ntmps19
  go_wp2_with fail
  refine HSP.out.mono ?_
  rintro e w1 ⟨v, rfl, ho, hb⟩
  obtain ⟨A, c, rfl, -⟩ := ho.form len_cellsT
  have HB := Lib.hid hb
  clear ho hb
  cases h : NB a 12 with
  | nil =>
    have HH := Lib.hid h
    clear h
    go_wp2
    go_ret
    refine ⟨?_, HB.out⟩
    rw [HH.out]
    rfl
  | cons x r =>
    have hd : decide (0 < r.length + 1) = true := decide_eq_true (by omega)
    have HH := Lib.hid h
    clear h
    go_wp2
    go_ret
    refine ⟨?_, HB.out⟩
    rw [HH.out]
    rfl

theorem attributes_any (a : Nat) (w : World) (ha : Good a) (hT : TabT w) (hs : 0 < w.heap.size) :
    Calls Tryd.prog 9 #[.int .i64 (a : Int)] w fun e w' => e = .returned (.tuple #[.string ⟨(AN a).toArray⟩, .bool (!(NB a 12).isEmpty)]) ∧ Below w.heap.size w w' := by
  have H18 := Lib.hid (attrAsm_any a w ha hT hs)
  have H19 : Hid (∀ W, Below w.heap.size w W → Calls Tryd.prog 19 #[.int .u16 (a : Int)] W fun e w' => e = .returned (.bool (!(NB a 12).isEmpty)) ∧ Below W.heap.size W w') := Lib.hid (fun W hW => attrAsk_any a W ha (hT.below hs hW) (Nat.lt_of_lt_of_le hs hW.size))
  have h4 := ha.1
  have d1 : decide ((a : Int) < 0) = false := decide_eq_false (by omega)
  have d2 : decide (65535 < (a : Int)) = false := decide_eq_false (by omega)
  clear ha hT
  obtain ⟨S, hS⟩ : ∃ S : ByteArray, ⟨(AN a).toArray⟩ = S := ⟨_, rfl⟩
  rw [hS] at H18 ⊢
  obtain ⟨B, hB⟩ : ∃ B : Bool, (!(NB a 12).isEmpty) = B := ⟨_, rfl⟩
  rw [hB] at H19 ⊢
  clear hS hB
  go_enter Tryd.func9, Tryd.ntmps9
  go_wp2_with fail
  refine H18.out.mono ?_
  rintro e w1 ⟨rfl, hb1⟩
  have H19' := Lib.hid (H19.out w1 hb1)
  go_wp2_with fail
  refine H19'.out.mono ?_
  rintro e w2 ⟨rfl, hb2⟩
  have HB := Lib.hid (hb1.trans (hb2.mono hb1.size))
  clear hb1 hb2
  go_wp2
  go_ret2
  exact ⟨rfl, HB.out⟩

end Go.Proofs.YtjmmfhgdjndabaaRRDoor
