/- Walks of a term: its name, whether it is negated, that it is right. Conditions: the library's table lies as it is laid; the term is one of six tags, negated or not. -/
import Derived.Test.YtjmmfhgdjndabaaRRDoorTagP
import Derived.Test.YtjmmfhgdjndabaaRRDoorShT
import Derived.WalkKit
import Derived.WalkLawsBesides
import Derived.WalkSpells
import Derived.Below
import Derived.Handy
import Derived.LoopTactic
import Derived.Lib.Hide
import Derived.Lib.OthersKept
import Derived.Lib.AppendIntMem
namespace Go.Proofs.YtjmmfhgdjndabaaRRDoor
open Go.RowKit

/-- A sign of a name. -/
def nameOk (b : UInt8) : Bool := decide (b.toNat < 128) && (Lib.isLetterL (b.toNat : Int) || Lib.isDigitL (b.toNat : Int) || decide (b.toNat = 95) || decide (b.toNat = 46))

theorem term_facts (t : Tm) (hx : t.2 < 6) : Lib.hasPrefix (tt t) [33, 33] = false ∧ Lib.trimPrefix (tt t) [33] = tg t.2 ∧ Lib.hasPrefix (tt t) [33] = t.1 ∧ (tg t.2).all nameOk = true := by
  obtain ⟨n, x⟩ := t
  have h : x = 0 ∨ x = 1 ∨ x = 2 ∨ x = 3 ∨ x = 4 ∨ x = 5 := by simp at hx; omega
  rcases h with rfl | rfl | rfl | rfl | rfl | rfl <;> cases n <;> decide

theorem name_any (t : Tm) (hx : t.2 < 6) (w : World) :
    Calls Tryd.prog 56 #[.string ⟨(tt t).toArray⟩] w fun e w' => e = .returned (.string ⟨(tg t.2).toArray⟩) ∧ w = w' := by
  have h := Tryd.strings_TrimPrefix ⟨(tt t).toArray⟩ ⟨#[33]⟩ w
  have e : Lib.trimPrefix (⟨(tt t).toArray⟩ : ByteArray).data.toList (⟨#[33]⟩ : ByteArray).data.toList = tg t.2 := (term_facts t hx).2.1
  rw [e] at h
  have H := Lib.hid h
  obtain ⟨S, hS⟩ : ∃ S : ByteArray, ⟨(tt t).toArray⟩ = S := ⟨_, rfl⟩
  obtain ⟨N, hN⟩ : ∃ N : ByteArray, ⟨(tg t.2).toArray⟩ = N := ⟨_, rfl⟩
  rw [hS, hN] at H
  rw [hS, hN]
  clear h e hS hN
  go_enter Tryd.func56, Tryd.ntmps56
  go_wp2_with fail
  refine H.out.mono ?_
  rintro e w' ⟨rfl, rfl⟩
  go_wp2
  go_ret
  exact ⟨rfl, rfl⟩

theorem neg_any (t : Tm) (hx : t.2 < 6) (w : World) :
    Calls Tryd.prog 59 #[.string ⟨(tt t).toArray⟩] w fun e w' => e = .returned (.bool t.1) ∧ w = w' := by
  have h := Tryd.strings_HasPrefix ⟨(tt t).toArray⟩ ⟨#[33]⟩ w
  have e : Lib.hasPrefix (⟨(tt t).toArray⟩ : ByteArray).data.toList (⟨#[33]⟩ : ByteArray).data.toList = t.1 := (term_facts t hx).2.2.1
  rw [e] at h
  have H := Lib.hid h
  obtain ⟨S, hS⟩ : ∃ S : ByteArray, ⟨(tt t).toArray⟩ = S := ⟨_, rfl⟩
  obtain ⟨N, hN⟩ : ∃ N : Bool, t.1 = N := ⟨_, rfl⟩
  rw [hS, hN] at H
  rw [hS, hN]
  clear h e hS hN
  go_enter Tryd.func59, Tryd.ntmps59
  go_wp2_with fail
  refine H.out.mono ?_
  rintro e w' ⟨rfl, rfl⟩
  go_wp2
  go_ret
  exact ⟨rfl, rfl⟩

/-- The library's table of signs lies as it is laid. -/
def TabP (w : World) : Prop := Lib.TabIs Tryd.prog w "unicode.properties" .u8 Lib.propertiesTab
theorem TabP.below {w w' : World} (h : TabP w) (hb : Below w.heap.size w w') : TabP w' := Lib.tabBelow_of_tabIs h w' hb
theorem TabP.iter {w : World} (h : TabP w) (s : ByteArray) (pos : Nat) : TabP (w.iter s pos) := h.below ((Below.refl _ _).alloc (Nat.le_refl _) _)

theorem next_at (w : World) (s : List UInt8) (pos x : Nat) (hx : ∃ b, s[pos]? = some b ∧ b.toNat = x) (hx2 : x < 128) :
    ∀ ty, (Instr.next (.pointer (some ⟨w.heap.size, 0, none⟩)) true ty).run Tryd.prog (w.iter ⟨s.toArray⟩ pos) = .ok (.tuple #[.bool true, .int .i64 pos, .int .i32 (x : Int)]) (w.iter ⟨s.toArray⟩ (pos + 1)) := by
  obtain ⟨b, hb, hbx⟩ := hx
  intro ty
  have hlt : pos < s.length := (List.getElem?_eq_some_iff.1 hb).1
  have hp : pos < (⟨s.toArray⟩ : ByteArray).size := by simpa [ByteArray.size] using hlt
  have hv : ((⟨s.toArray⟩ : ByteArray)[pos]'hp).toNat = x := by
    have e : (⟨s.toArray⟩ : ByteArray)[pos]'hp = s[pos]'hlt := rfl
    rw [e, (List.getElem?_eq_some_iff.1 hb).2, hbx]
  have h := run_next_any (P := Tryd.prog) w ⟨s.toArray⟩ pos ty hp
  rw [decode_ascii _ _ hp (by rw [hv]; exact hx2), hv] at h
  exact h

set_option maxHeartbeats 1000000 in
set_option maxRecDepth 100000 in
theorem validate_name (S : ByteArray) (s : List UInt8) (w : World) (hT : TabP w) (h3 : s ≠ []) (h4 : s.all nameOk = true)
    (H1 : Hid (Calls Tryd.prog 54 #[.string S, .string ⟨#[33, 33]⟩] w fun e w' => e = .returned (.bool false) ∧ w = w'))
    (H2 : Hid (Calls Tryd.prog 56 #[.string S] w fun e w' => e = .returned (.string ⟨s.toArray⟩) ∧ w = w')) (hl : s.length ≤ 100) :
    Calls Tryd.prog 46 #[.string S] w fun e w' => e = .returned .nilIface ∧ Below w.heap.size w w' := by
  have hne : 0 < s.length := by cases s with | nil => exact absurd rfl h3 | cons _ _ => simp
  have hsz : (⟨s.toArray⟩ : ByteArray).size = s.length := by simp [ByteArray.size]
  have HT : Hid (∀ pos, TabP (w.iter ⟨s.toArray⟩ pos)) := Lib.hid (fun pos => hT.iter _ _)
  have HOK := Lib.hid h4
  have HSZ := Lib.hid hsz
  have HNX : Hid (∀ pos x : Nat, (∃ b, s[pos]? = some b ∧ b.toNat = x) → x < 128 → ∀ ty, (Instr.next (.pointer (some ⟨w.heap.size, 0, none⟩)) true ty).run Tryd.prog (w.iter ⟨s.toArray⟩ pos) = .ok (.tuple #[.bool true, .int .i64 pos, .int .i32 (x : Int)]) (w.iter ⟨s.toArray⟩ (pos + 1))) := Lib.hid (fun pos x h1 h2 => next_at w s pos x h1 h2)
  obtain ⟨N, hN⟩ : ∃ N : ByteArray, ⟨s.toArray⟩ = N := ⟨_, rfl⟩
  rw [hN] at H2 HT HSZ HNX hsz
  have hn0 : ((N.size : Int) == 0) = false := beq_eq_false_iff_ne.2 (by omega)
  have hn100 : N.size ≤ 100 := by omega
  clear hT h3 h4 hsz hN
  go_enter Tryd.func46, Tryd.ntmps46
  go_wp2_with fail
  refine H1.out.mono ?_
  rintro e w' ⟨rfl, rfl⟩
  go_wp2_with fail
  refine H2.out.mono ?_
  rintro e w' ⟨rfl, rfl⟩
  go_wp2_with fail
  refine H2.out.mono ?_
  rintro e w' ⟨rfl, rfl⟩
  go_wp2_with fail
  go_loopw [4] (fun c wr => ∃ pos : Nat, wr = w.iter N pos ∧ pos ≤ N.size) (fun _ wr => N.size - wr.iterPos w.heap.size)
  case atStart => exact ⟨0, rfl, Nat.zero_le _⟩
  case round =>
    obtain ⟨pos, rfl, hpos⟩ := hrel
    by_cases hp : pos < N.size
    · obtain ⟨b, hb⟩ : ∃ b, s[pos]? = some b := ⟨s[pos]'(by rw [← HSZ.out]; exact hp), List.getElem?_eq_getElem _⟩
      have hbk := List.all_eq_true.1 HOK.out b (List.mem_of_getElem? hb)
      unfold nameOk at hbk
      obtain ⟨x, hx⟩ : ∃ x, b.toNat = x := ⟨_, rfl⟩
      rw [hx] at hbk
      simp only [Bool.and_eq_true, Bool.or_eq_true, decide_eq_true_eq] at hbk
      obtain ⟨hx128, hcl⟩ := hbk
      have hnx := HNX.out pos x ⟨b, hb, hx⟩ hx128
      have HL := Lib.hid (Tryd.unicode_IsLetter x (w.iter N (pos + 1)) (by omega) (HT.out (pos + 1)))
      have HD := Lib.hid (Tryd.unicode_IsDigit x (w.iter N (pos + 1)) (by omega))
      have HCL := Lib.hid hcl
      clear hb hx hcl
      cases hL : Lib.isLetterL (x : Int) with
      | true =>
        rw [hL] at HL
        clear hL HCL
        go_wp2_with fail
        refine HL.out.mono ?_
        rintro e w' ⟨rfl, rfl⟩
        go_wp2_with fail
        go_roundw
        case rel => exact ⟨pos + 1, rfl, by omega⟩
        case measure => simp; omega
      | false =>
        rw [hL] at HL
        cases hD : Lib.isDigitL (x : Int) with
        | true =>
          rw [hD] at HD
          clear hL hD HCL
          go_wp2_with fail
          refine HL.out.mono ?_
          rintro e w' ⟨rfl, rfl⟩
          go_wp2_with fail
          refine HD.out.mono ?_
          rintro e w' ⟨rfl, rfl⟩
          go_wp2_with fail
          go_roundw
          case rel => exact ⟨pos + 1, rfl, by omega⟩
          case measure => simp; omega
        | false =>
          rw [hD] at HD
          have hc2 : x = 95 ∨ x = 46 := by
            rcases HCL.out with ((h | h) | h) | h
            · rw [hL] at h; cases h
            · rw [hD] at h; cases h
            · exact .inl h
            · exact .inr h
          clear hL hD HCL
          rcases hc2 with rfl | rfl
          · go_wp2_with fail
            refine HL.out.mono ?_
            rintro e w' ⟨rfl, rfl⟩
            go_wp2_with fail
            refine HD.out.mono ?_
            rintro e w' ⟨rfl, rfl⟩
            go_wp2_with fail
            go_roundw
            case rel => exact ⟨pos + 1, rfl, by omega⟩
            case measure => simp; omega
          · go_wp2_with fail
            refine HL.out.mono ?_
            rintro e w' ⟨rfl, rfl⟩
            go_wp2_with fail
            refine HD.out.mono ?_
            rintro e w' ⟨rfl, rfl⟩
            go_wp2_with fail
            go_roundw
            case rel => exact ⟨pos + 1, rfl, by omega⟩
            case measure => simp; omega
    · have hnx : ∀ ty, (Instr.next (.pointer (some ⟨w.heap.size, 0, none⟩)) true ty).run Tryd.prog (w.iter N pos) = _ := fun ty => run_next_end w N pos ty hp
      go_wp2
      go_ret
      exact ⟨rfl, (Below.refl _ _).alloc (Nat.le_refl _) _⟩

theorem validate_any (t : Tm) (hx : t.2 < 6) (w : World) (hT : TabP w) :
    Calls Tryd.prog 46 #[.string ⟨(tt t).toArray⟩] w fun e w' => e = .returned .nilIface ∧ Below w.heap.size w w' := by
  have h := Tryd.strings_HasPrefix ⟨(tt t).toArray⟩ ⟨#[33, 33]⟩ w
  have e : Lib.hasPrefix (⟨(tt t).toArray⟩ : ByteArray).data.toList (⟨#[33, 33]⟩ : ByteArray).data.toList = false := (term_facts t hx).1
  rw [e] at h
  exact validate_name _ (tg t.2) w hT (tg_ne _) (term_facts t hx).2.2.2 (Lib.hid (h.mono fun e w' ⟨h1, h2⟩ => ⟨h1, h2.symm⟩)) (Lib.hid (name_any t hx w)) (by have := tg_len t.2; omega)

end Go.Proofs.YtjmmfhgdjndabaaRRDoor
