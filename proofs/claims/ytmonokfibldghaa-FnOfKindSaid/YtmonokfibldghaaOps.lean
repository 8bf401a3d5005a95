/- Walks of Discard, Update, DifferenceUpdate, Clone, Difference, OfKind on sets, and of setIs. Conditions: lengths as stated. -/
import Derived.Test.YtmonokfibldghaaSets
namespace Go.Proofs.Ytmonokfibldghaa
open Go.RowKit Go.Maps Pl

/-! ### Discard -/
theorem disc_no (b n : Nat) (L : PL) (i m : Nat) (w : World) (hs : IsM 68 w b n L) (hL : Bd L) (hi : i < 4294967296) (hm : m < 65536) (h : getL L i &&& m = 0) :
    Calls Try.prog 33 #[.map (some b), .int .u32 i, .int .u16 m] w fun e w' => e = .returned (.bool false) ∧ w = w' := by
  have hg := get_bd hL i
  by_cases hh : hasL L i = true
  · have ha : (bits .and .u16 (getL L i : Int) (m : Int) == 0) = true := by rw [u16_and_nat (getL L i) m hg hm, h]; rfl
    have HA := Lib.hid ha
    clear ha h
    go_enter Try.func33, Try.ntmps33
    go_wp2_with (first
      | (at_lookup; refine wpList_look_ok _ rfl _ _ 64 68 rfl law68 Try.underlying68 Try.underlying64 b n L rfl hs i hi rfl ?_; have ha := HA.out)
      | go_in)
    go_ret
    exact ⟨rfl, rfl⟩
  · have hh' : hasL L i = false := by simpa using hh
    clear hh h
    go_enter Try.func33, Try.ntmps33
    go_wp2_with (first
      | (at_lookup; refine wpList_look_ok _ rfl _ _ 64 68 rfl law68 Try.underlying68 Try.underlying64 b n L rfl hs i hi rfl ?_)
      | go_in)
    go_ret
    exact ⟨rfl, rfl⟩

theorem disc_yes (b n : Nat) (L : PL) (i m : Nat) (w : World) (hs : IsM 68 w b n L) (hn : n < 2147483648) (hA : Asc L) (hL : Bd L) (hi : i < 4294967296) (hm : m < 65536) (h : ¬ getL L i &&& m = 0) :
    Calls Try.prog 33 #[.map (some b), .int .u32 i, .int .u16 m] w fun e w' => e = .returned (.bool true) ∧ IsM 68 w' b (n + 1) (discL L i m) ∧ w.grownBy w' (some b) := by
  have hg := get_bd hL i
  have hh : hasL L i = true := by
    cases hc : hasL L i with
    | true => rfl
    | false => rw [get_of_not_has hc] at h; simp at h
  have ha : (bits .and .u16 (getL L i : Int) (m : Int) == 0) = false := by rw [u16_and_nat (getL L i) m hg hm]; simp; omega
  have hal := andn_lt m hg
  have HO := Lib.hid (andNot_u16 (getL L i) m hg hm)
  have HA := Lib.hid ha
  have HG := Lib.hid ((get_put hA i (andn (getL L i) m) i).trans (if_pos rfl))
  have HP := Lib.hid (del_put hA i (andn (getL L i) m))
  have HD := Lib.hid (show discL L i m = if andn (getL L i) m = 0 then delL L i else putL L i (andn (getL L i) m) by rw [discL, if_neg h])
  clear ha h
  by_cases hz : andn (getL L i) m = 0
  · have HZ := Lib.hid (show ((getL (putL L i (andn (getL L i) m)) i : Int) == 0) = true by rw [HG.out, hz]; rfl)
    have HD' := Lib.hid (HD.out.trans (if_pos hz))
    clear hz
    go_enter Try.func33, Try.ntmps33
    have tok : True := trivial
    go_wp2_with (first
      | (at_lookup; refine wpList_look_ok _ rfl _ _ 64 68 rfl law68 Try.underlying68 Try.underlying64 b n L rfl hs i hi rfl ?_; have ha := HA.out)
      | (at_lookup; have _t := tok; refine wpList_look _ rfl _ _ 64 68 rfl law68 Try.underlying68 Try.underlying64 b n L rfl hs i hi rfl ?_)
      | (at_lookup; refine wpList_look _ rfl _ _ 64 68 rfl law68 Try.underlying68 Try.underlying64 b (n + 1) (putL L i (andn (getL L i) m)) rfl hs1 i hi rfl ?_; have hzz := HZ.out)
      | (at_mapUpdate; refine wpList_put _ rfl _ _ _ 64 68 rfl law68 Try.underlying68 Try.underlying64 b n L rfl hs hn i hi rfl _ (andn (getL L i) m) rfl HO.out hal ?_; intro w1 hs1 hg1; clear tok)
      | (at_delete; refine wpList_del _ rfl _ _ 64 68 rfl law68 Try.underlying68 Try.underlying64 b (n + 1) (putL L i (andn (getL L i) m)) rfl hs1 i hi rfl ?_; intro w2 hs2 hg2)
      | go_in)
    go_ret
    exact ⟨rfl, by rw [HD'.out, ← HP.out]; exact hs2, hg1.trans hg2⟩
  · have HZ := Lib.hid (show ((getL (putL L i (andn (getL L i) m)) i : Int) == 0) = false by rw [HG.out]; simp; omega)
    have HD' := Lib.hid (HD.out.trans (if_neg hz))
    clear hz
    go_enter Try.func33, Try.ntmps33
    have tok : True := trivial
    go_wp2_with (first
      | (at_lookup; refine wpList_look_ok _ rfl _ _ 64 68 rfl law68 Try.underlying68 Try.underlying64 b n L rfl hs i hi rfl ?_; have ha := HA.out)
      | (at_lookup; have _t := tok; refine wpList_look _ rfl _ _ 64 68 rfl law68 Try.underlying68 Try.underlying64 b n L rfl hs i hi rfl ?_)
      | (at_lookup; refine wpList_look _ rfl _ _ 64 68 rfl law68 Try.underlying68 Try.underlying64 b (n + 1) (putL L i (andn (getL L i) m)) rfl hs1 i hi rfl ?_; have hzz := HZ.out)
      | (at_mapUpdate; refine wpList_put _ rfl _ _ _ 64 68 rfl law68 Try.underlying68 Try.underlying64 b n L rfl hs hn i hi rfl _ (andn (getL L i) m) rfl HO.out hal ?_; intro w1 hs1 hg1; clear tok)
      | go_in)
    go_ret
    exact ⟨rfl, by rw [HD'.out]; exact hs1, hg1⟩

/-- Discard: whether it changes the set, and what the set holds behind it. -/
theorem disc_any (b n : Nat) (L : PL) (i m : Nat) (w : World) (hs : IsM 68 w b n L) (hn : n < 2147483648) (hA : Asc L) (hL : Bd L) (hi : i < 4294967296) (hm : m < 65536) :
    Calls Try.prog 33 #[.map (some b), .int .u32 i, .int .u16 m] w fun e w' => e = .returned (.bool (decide (¬ getL L i &&& m = 0))) ∧ IsM 68 w' b (n + 1) (discL L i m) ∧ w.grownBy w' (some b) := by
  by_cases h : getL L i &&& m = 0
  · refine (disc_no b n L i m w hs hL hi hm h).mono fun e w' hew => ?_
    obtain ⟨rfl, rfl⟩ := hew
    exact ⟨by simp [h], by rw [discL, if_pos h]; exact hs.mono (by omega), World.grownBy.refl w _⟩
  · refine (disc_yes b n L i m w hs hn hA hL hi hm h).mono fun e w' hew => ?_
    obtain ⟨rfl, h1, h2⟩ := hew
    exact ⟨by simp [h], h1, h2⟩

/-! ### setIs -/
set_option maxRecDepth 100000 in
/-- setIs: true where the two lists are one. -/
theorem setIs_same (B : Nat) (A : Option Addr) (n c : Nat) (A' : Option Addr) (c' : Nat) (l : PL) (w : World) (hr : RowP w B A l) (hr' : RowP w B A' l) (hln : l.length = n) (hn : n < 2147483648) :
    Calls Try.prog 20 #[.slice A n c, .slice A' n c'] w fun e w' => e = .returned (.bool true) ∧ Below w.heap.size w w' := by
  go_enter Try.func20, Try.ntmps20
  go_wp2
  go_loopw [13] (fun i wr => ∃ k : Nat, k ≤ n ∧ i = .int .i64 k ∧ Below w.heap.size w wr ∧ ∀ p : Addr, wr.cell? p = w.cell? p) (fun i _ => n - (intOf i).toNat)
  case atStart => exact ⟨0, Nat.zero_le _, rfl, Below.refl _ _, fun _ => rfl⟩
  case round =>
    obtain ⟨k, hk, rfl, hnx, hsame⟩ := hrel
    by_cases hlt : k < n
    · obtain ⟨p, hp⟩ : ∃ p, l[k]? = some p := ⟨l[k]'(by omega), List.getElem?_eq_getElem (by omega)⟩
      obtain ⟨blk, off, rfl, _, hcs⟩ := hr (by omega)
      obtain ⟨blk', off', rfl, _, hcs'⟩ := hr' (by omega)
      have hc0 := (hsame ⟨blk, off + k * 2, none⟩).trans (hcs k p hp).1
      have hc1 := (hsame ⟨blk, off + k * 2 + 1, none⟩).trans (hcs k p hp).2
      have hc0' := (hsame ⟨blk', off' + k * 2, none⟩).trans (hcs' k p hp).1
      have hc1' := (hsame ⟨blk', off' + k * 2 + 1, none⟩).trans (hcs' k p hp).2
      have HS := Lib.hid hsame
      have hki : (k : Int) < (n : Int) := by omega
      clear hcs hcs' hp hsame hr hr'
      go_wp2_with fail
      go_quiet (fail)
      go_wp2
      go_roundw
      case rel => exact ⟨k + 1, by omega, by go_num, below_drewN hnx _, fun q => HS.out q⟩
      case measure => simp [intOf]; omega
    · go_wp2
      go_ret
      exact ⟨rfl, hnx⟩

end Go.Proofs.Ytmonokfibldghaa
