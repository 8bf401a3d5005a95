/- Walk of FnString: a text of plain signs as a constant. Conditions: the library's tables lie as they are laid. -/
import Derived.Test.YtjmmfhgdjndabaaRRDoorShQ
import Derived.Test.YtjmmfhgdjndabaaRRDoorQuote
import Derived.WalkKit
import Derived.BigRegion
import Derived.Below
import Derived.Handy
import Derived.LoopTactic
import Derived.Lib.Hide
namespace Go.Proofs.YtjmmfhgdjndabaaRRDoor
open Go.RowKit Go.Lib

/-- The quoted text behind a dollar. -/
def dollar (l : List UInt8) : ByteArray := ⟨(36 :: 34 :: (l ++ [34])).toArray⟩

theorem quote_any (T : PrintTabs) (l : List UInt8) (h : ∀ b ∈ l, Sign b) (hl : l.length ≤ 100) (w : World) (hT : PrintTabsAt 9 10 11 12 T w) (hU : Utf8Tabs 7 8 w) :
    Calls Tryd.prog 28 #[.string ⟨l.toArray⟩] w fun e w' => e = .returned (.string ⟨(34 :: (l ++ [34])).toArray⟩) ∧ Below w.heap.size w w' := by
  have := Tryd.strconv_Quote T ⟨l.toArray⟩ w (by simp [ByteArray.size]; omega) hT hU
  rw [quote_plain T l h] at this
  exact this

theorem asm_any (T : PrintTabs) (l : List UInt8) (h : ∀ b ∈ l, Sign b) (hl : l.length ≤ 100) (w : World) (hT : PrintTabsAt 9 10 11 12 T w) (hU : Utf8Tabs 7 8 w) :
    Calls Tryd.prog 15 #[.string ⟨l.toArray⟩] w fun e w' => e = .returned (.string (dollar l)) ∧ Below w.heap.size w w' := by
  have HQ := Lib.hid (quote_any T l h hl w hT hU)
  have hs : (⟨(34 :: (l ++ [34])).toArray⟩ : ByteArray).size = l.length + 2 := by simp [ByteArray.size]
  obtain ⟨S, hS⟩ : ∃ S : ByteArray, ⟨(34 :: (l ++ [34])).toArray⟩ = S := ⟨_, rfl⟩
  have HD : Hid ((⟨#[36]⟩ : ByteArray) ++ S = dollar l) := Lib.hid (by
    rw [← hS]
    apply ByteArray.ext
    simp [dollar])
  rw [hS] at hs HQ
  obtain ⟨s0, hs0⟩ : ∃ s0 : ByteArray, ⟨l.toArray⟩ = s0 := ⟨_, rfl⟩
  rw [hs0] at HQ ⊢
  have hsz : S.size ≤ 102 := by omega
  clear hs hS hs0
  go_enter Tryd.func15, Tryd.ntmps15
  go_wp2_with fail
  refine HQ.out.mono ?_
  rintro e w1 ⟨rfl, hb⟩
  go_wp2
  go_ret
  exact ⟨by rw [← HD.out]; rfl, hb⟩

theorem bytes_any (l : List UInt8) (hl : l.length ≤ 100) (w : World) :
    Calls Tryd.prog 16 #[.string ⟨l.toArray⟩] w fun e w' => e = .returned (.int .i64 l.length) ∧ w = w' := by
  have hs : (⟨l.toArray⟩ : ByteArray).size = l.length := by simp [ByteArray.size]
  obtain ⟨s0, hs0⟩ : ∃ s0 : ByteArray, ⟨l.toArray⟩ = s0 := ⟨_, rfl⟩
  rw [hs0] at hs ⊢
  go_enter Tryd.func16, Tryd.ntmps16
  go_wp2
  go_ret
  exact ⟨by simp, rfl⟩

theorem string_any (T : PrintTabs) (l : List UInt8) (h : ∀ b ∈ l, Sign b) (hl : l.length ≤ 100) (w : World) (hT : PrintTabsAt 9 10 11 12 T w) (hU : Utf8Tabs 7 8 w) :
    Calls Tryd.prog 7 #[.string ⟨l.toArray⟩] w fun e w' => e = .returned (.tuple #[.string (dollar l), .int .i64 l.length]) ∧ Below w.heap.size w w' := by
  have HA := Lib.hid (asm_any T l h hl w hT hU)
  have HB := Lib.hid (fun W => bytes_any l hl W)
  obtain ⟨s0, hs0⟩ : ∃ s0 : ByteArray, ⟨l.toArray⟩ = s0 := ⟨_, rfl⟩
  obtain ⟨d, hd⟩ : ∃ d : ByteArray, dollar l = d := ⟨_, rfl⟩
  rw [hs0, hd] at HA
  rw [hs0] at HB
  rw [hs0, hd]
  clear hs0 hd
  go_enter Tryd.func7, Tryd.ntmps7
  go_wp2_with fail
  refine HA.out.mono ?_
  rintro e w1 ⟨rfl, hb⟩
  go_wp2_with fail
  refine (HB.out _).mono ?_
  rintro e w2 ⟨rfl, rfl⟩
  go_wp2
  go_ret2
  exact ⟨rfl, hb⟩

theorem convert_some (w : World) (b off n c : Nat) (l : List UInt8) (hl : l.length = n) (hc : ∀ k z, l[k]? = some z → w.cell? ⟨b, off + k, none⟩ = some (.int .u8 (z.toNat : Int))) :
    (convert 22 9 (.slice (some ⟨b, off, none⟩) n c)).run Tryd.prog w = .ok (.string ⟨l.toArray⟩) w := by
  have := run_convert_bytes_arg (P := Tryd.prog) w 22 5 Tryd.underlying22 Tryd.underlying5 b off n c (l.map fun b => (b.toNat : Int)) (by simpa using hl) (fun i hi => by
    have hz : l[i]? = some (l[i]'(by omega)) := List.getElem?_eq_getElem _
    rw [hc i _ hz]
    simp [List.getD_eq_getElem?_getD, hz]) 9 Tryd.underlying9
  rw [nums_of] at this
  exact this

set_option maxRecDepth 100000 in
theorem fnString_few (T : PrintTabs) (b off n c : Nat) (l : List UInt8) (w : World) (hT : PrintTabsAt 9 10 11 12 T w) (hU : Utf8Tabs 7 8 w) (hb : b < w.heap.size) (hl : l.length = n) (h0 : 0 < n) (hn : n ≤ 100)
    (hc : ∀ k z, l[k]? = some z → w.cell? ⟨b, off + k, none⟩ = some (.int .u8 (z.toNat : Int))) :
    Calls Tryd.prog 3 #[.slice (some ⟨b, off, none⟩) n c] w fun e w' => e = .returned (.bool true) ∧ Below w.heap.size w w' := by
  have HC := Lib.hid hc
  have HTT := Lib.hid hT
  have HUU := Lib.hid hU
  have HL := Lib.hid hl
  have d1 : decide (2147483647 < (n : Int)) = false := decide_eq_false (by omega)
  have d2 : decide (100 < (n : Int)) = false := decide_eq_false (by omega)
  clear hc hT hU hl
  go_enter Tryd.func3, Tryd.ntmps3
  go_wp2_with fail
  go_loop [15] (fun i => ∃ k : Nat, k ≤ n ∧ i = .int .i64 k ∧ ∀ z ∈ l.take k, Sign z) (fun i => n - (RowKit.intOf i).toNat)
  case atStart => exact ⟨0, Nat.zero_le _, rfl, fun z hz => by simp at hz⟩
  case round =>
    obtain ⟨k, hk, rfl, hs⟩ := hrel
    by_cases hlt : k < n
    · obtain ⟨z, hz⟩ : ∃ z, l[k]? = some z := ⟨l[k]'(by have := HL.out; omega), List.getElem?_eq_getElem _⟩
      have hcell := HC.out k z hz
      obtain ⟨x, hx⟩ : ∃ x, z.toNat = x := ⟨_, rfl⟩
      have HX := Lib.hid hx
      have HS := Lib.hid hs
      have HZ := Lib.hid hz
      rw [hx] at hcell
      clear hz hx hs
      by_cases q1 : x < 32
      · have p1 : decide ((x : Int) < 32) = true := decide_eq_true (by omega)
        go_wp2
        go_ret
        exact ⟨rfl, Below.refl _ _⟩
      have p1 : decide ((x : Int) < 32) = false := decide_eq_false (by omega)
      by_cases q2 : 126 < x
      · have p2 : decide (126 < (x : Int)) = true := decide_eq_true (by omega)
        go_wp2
        go_ret
        exact ⟨rfl, Below.refl _ _⟩
      have p2 : decide (126 < (x : Int)) = false := decide_eq_false (by omega)
      by_cases q3 : x = 34
      · have p3 : ((x : Int) == 34) = true := by simp; omega
        go_wp2
        go_ret
        exact ⟨rfl, Below.refl _ _⟩
      have p3 : ((x : Int) == 34) = false := by simp; omega
      by_cases q4 : x = 92
      · have p4 : ((x : Int) == 92) = true := by simp; omega
        go_wp2
        go_ret
        exact ⟨rfl, Below.refl _ _⟩
      have p4 : ((x : Int) == 92) = false := by simp; omega
      have F : Hid (∀ y ∈ l.take (k + 1), Sign y) := Lib.hid (by
        intro y hy
        rw [List.take_add_one, HZ.out] at hy
        rcases List.mem_append.1 hy with hy | hy
        · exact HS.out y hy
        · simp at hy
          subst hy
          have := HX.out
          exact ⟨by omega, by omega, by omega, by omega⟩)
      go_wp2
      go_round
      case rel => exact ⟨k + 1, by omega, by go_num, F.out⟩
      case measure => simp [RowKit.intOf]; omega
    · have hkn : k = n := by omega
      subst hkn
      rw [List.take_of_length_le (by rw [HL.out]; exact Nat.le_refl _)] at hs
      have hlen := HL.out
      have HQ := Lib.hid (string_any T l hs (by omega) w HTT.out HUU.out)
      have r1 := convert_some w b off k c l hlen HC.out
      rw [hlen] at HQ
      obtain ⟨S, hS⟩ : ∃ S : ByteArray, ⟨l.toArray⟩ = S := ⟨_, rfl⟩
      obtain ⟨d, hd⟩ : ∃ d : ByteArray, dollar l = d := ⟨_, rfl⟩
      have HSS := Lib.hid hS
      rw [hS] at r1
      rw [hS, hd] at HQ
      clear hlen
      have hS100 : S.size ≤ 100 := by have := HL.out; rw [← hS]; simp [ByteArray.size]; omega
      have R3 : Hid ((⟨#[36, 34]⟩ : ByteArray) ++ S ++ (⟨#[34]⟩ : ByteArray) = d) := Lib.hid (by
        rw [← hS, ← hd]
        apply ByteArray.ext
        simp [dollar])
      clear hS hd hs
      go_wp2_with fail
      refine HQ.out.mono ?_
      rintro e w1 ⟨rfl, hb1⟩
      have r2 := convert_some w1 b off k c l HL.out (fun i z hz => (hb1.cell (p := ⟨b, off + i, none⟩) hb).trans (HC.out i z hz))
      rw [HSS.out] at r2
      go_wp2
      go_ret
      refine ⟨?_, hb1⟩
      show Ending.returned (Value.bool (d.toList == ((⟨#[36, 34]⟩ : ByteArray) ++ S ++ (⟨#[34]⟩ : ByteArray)).toList)) = _
      rw [R3.out]
      simp

theorem fnString_zero (T : PrintTabs) (A : Option Addr) (c : Nat) (w : World) (hT : PrintTabsAt 9 10 11 12 T w) (hU : Utf8Tabs 7 8 w) (hA : A = none → c = 0) :
    Calls Tryd.prog 3 #[.slice A 0 c] w fun e w' => e = .returned (.bool true) ∧ Below w.heap.size w w' := by
  have HQ := Lib.hid (string_any T [] (fun b hb => by cases hb) (by decide) w hT hU)
  have hd : dollar [] = ⟨#[36, 34, 34]⟩ := rfl
  rw [hd] at HQ
  clear hd hT hU
  cases A with
  | none =>
    obtain rfl := hA rfl
    have r1 : ∀ W : World, (convert 22 9 (.slice none 0 0)).run Tryd.prog W = .ok (.string ⟨#[]⟩) W := fun W => run_convert_bytes_nil (P := Tryd.prog) W 22 5 Tryd.underlying22 Tryd.underlying5 0 0 9 Tryd.underlying9
    go_enter Tryd.func3, Tryd.ntmps3
    go_wp2_with fail
    go_loop [15] (fun i => i = .int .i64 0) (fun _ => 0)
    case atStart => rfl
    case round =>
      obtain rfl := hrel
      go_wp2_with fail
      refine HQ.out.mono ?_
      rintro e w1 ⟨rfl, hb1⟩
      go_wp2
      go_ret
      refine ⟨?_, hb1⟩
      show Ending.returned (Value.bool ([36, 34, 34] == ((⟨#[36, 34]⟩ : ByteArray) ++ (⟨#[]⟩ : ByteArray) ++ (⟨#[34]⟩ : ByteArray)).toList)) = _
      rw [show (⟨#[36, 34]⟩ : ByteArray) ++ (⟨#[]⟩ : ByteArray) ++ (⟨#[34]⟩ : ByteArray) = ⟨#[36, 34, 34]⟩ from ByteArray.ext rfl, toList_data]
      rfl
  | some x =>
    have r1 : ∀ W : World, (convert 22 9 (.slice (some x) 0 c)).run Tryd.prog W = .ok (.string ⟨#[]⟩) W := fun W => by
      have hl : (loadCells x 0).run Tryd.prog W = .ok #[] W := rfl
      rw [run_convert_bytes_string W 22 9 5 _ 0 c Tryd.underlying22 Tryd.underlying5 Tryd.underlying9, run_bytesToString W _ 0 c [] hl]
      rfl
    go_enter Tryd.func3, Tryd.ntmps3
    go_wp2_with fail
    go_loop [15] (fun i => i = .int .i64 0) (fun _ => 0)
    case atStart => rfl
    case round =>
      obtain rfl := hrel
      go_wp2_with fail
      refine HQ.out.mono ?_
      rintro e w1 ⟨rfl, hb1⟩
      go_wp2
      go_ret
      refine ⟨?_, hb1⟩
      show Ending.returned (Value.bool ([36, 34, 34] == ((⟨#[36, 34]⟩ : ByteArray) ++ (⟨#[]⟩ : ByteArray) ++ (⟨#[34]⟩ : ByteArray)).toList)) = _
      rw [show (⟨#[36, 34]⟩ : ByteArray) ++ (⟨#[]⟩ : ByteArray) ++ (⟨#[34]⟩ : ByteArray) = ⟨#[36, 34, 34]⟩ from ByteArray.ext rfl, toList_data]
      rfl

theorem fnString_out (A : Option Addr) (n c : Nat) (w : World) (h : 100 < n) :
    Calls Tryd.prog 3 #[.slice A n c] w fun e w' => e = .returned (.bool true) ∧ Below w.heap.size w w' := by
  by_cases h1 : 2147483647 < n
  · have d1 : decide (2147483647 < (n : Int)) = true := decide_eq_true (by omega)
    go_enter Tryd.func3, Tryd.ntmps3
    go_wp2
    go_ret
    exact ⟨rfl, Below.refl _ _⟩
  · have d1 : decide (2147483647 < (n : Int)) = false := decide_eq_false (by omega)
    have d2 : decide (100 < (n : Int)) = true := decide_eq_true (by omega)
    go_enter Tryd.func3, Tryd.ntmps3
    go_wp2
    go_ret
    exact ⟨rfl, Below.refl _ _⟩

end Go.Proofs.YtjmmfhgdjndabaaRRDoor
