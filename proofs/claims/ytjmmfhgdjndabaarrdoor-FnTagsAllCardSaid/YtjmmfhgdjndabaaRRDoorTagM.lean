/- Walks of the statements' list of tags and of the set of these. Conditions: none. -/
import Derived.Test.YtjmmfhgdjndabaaRRDoorTagW
import Derived.Test.YtjmmfhgdjndabaaRRDoorRows2
import Derived.Maps.RangeWalk
import Derived.Laws.BitsAllLaws
namespace Go.Proofs.YtjmmfhgdjndabaaRRDoor
open Go.RowKit Go.Maps

/-- The cell of a text. -/
def cellsU (s : List UInt8) : List Value := [.string ⟨s.toArray⟩]
theorem len_cellsU (s : List UInt8) : (cellsU s).length = 1 := rfl
theorem one_cellsU (s : List UInt8) : ∀ u ∈ cellsU s, u.oneCell' = true := by
  intro u hu
  simp [cellsU] at hu
  subst hu
  rfl
theorem infoU9 : (Tryd.prog.info? 9).map (fun i => (i.zero, i.size, i.bytes)) = some (some (.string ⟨#[]⟩), 1, 16) := by kernel_rfl

/-- The tags of the first k bits. -/
def TG (a k : Nat) : List (List UInt8) := ((List.range k).filter fun i => decide (a / 2 ^ i % 2 = 1)).map tg
theorem TG_set {a k : Nat} (h : a / 2 ^ k % 2 = 1) : TG a (k + 1) = TG a k ++ [tg k] := by
  unfold TG
  rw [List.range_succ, List.filter_append, List.map_append]
  simp [h]
theorem TG_not {a k : Nat} (h : ¬ a / 2 ^ k % 2 = 1) : TG a (k + 1) = TG a k := by
  unfold TG
  rw [List.range_succ, List.filter_append, List.map_append]
  simp [h]
theorem TG_len (a : Nat) : ∀ k, (TG a k).length ≤ k
  | 0 => by simp [TG]
  | k + 1 => by
    have := TG_len a k
    by_cases h : a / 2 ^ k % 2 = 1
    · rw [TG_set h]; simp; omega
    · rw [TG_not h]; omega

/-- The row of the six tags. -/
def tagRow : Array Value := #[.string ⟨#[108, 105, 110, 117, 120]⟩, .string ⟨#[97, 109, 100, 54, 52]⟩, .string ⟨#[112, 117, 114, 101, 103, 111]⟩, .string ⟨#[103, 111, 49]⟩, .string ⟨#[99, 103, 111]⟩, .string ⟨#[120, 95, 121]⟩]
theorem tagRow_at {k : Nat} (hk : k < 6) : tagRow[k]? = some (.string ⟨(tg k).toArray⟩) := by
  have h : k = 0 ∨ k = 1 ∨ k = 2 ∨ k = 3 ∨ k = 4 ∨ k = 5 := by omega
  rcases h with rfl | rfl | rfl | rfl | rfl | rfl <;> rfl
theorem tagRow_cell (w : World) {k : Nat} (hk : k < 6) : (w.alloc (.cells tagRow 9)).cell? ⟨w.heap.size, k, none⟩ = some (.string ⟨(tg k).toArray⟩) := by
  rw [cell_of_row (w.alloc (.cells tagRow 9)) w.heap.size k tagRow 9 (0, 0) (MapKept.heap_alloc w _).1]
  exact tagRow_at hk

theorem bit_u8 {a k : Nat} (ha : a < 256) : bits .and .u8 ((a : Int) / 2 ^ k) 1 = ((a / 2 ^ k % 2 : Nat) : Int) := by
  have h2 : a / 2 ^ k ≤ a := Nat.div_le_self _ _
  have e : (a : Int) / 2 ^ k = ((a / 2 ^ k : Nat) : Int) := by rw [Int.natCast_ediv, Int.natCast_pow]; rfl
  rw [e, show (1 : Int) = ((1 : Nat) : Int) from rfl, u8_and_nat _ _ (by omega) (by decide), Nat.and_one_is_mod]
theorem bit_set {a k : Nat} (ha : a < 256) (h : a / 2 ^ k % 2 = 1) : (bits .and .u8 ((a : Int) / 2 ^ k) 1 == 1) = true := by rw [bit_u8 ha, h]; rfl
theorem bit_not {a k : Nat} (ha : a < 256) (h : ¬ a / 2 ^ k % 2 = 1) : (bits .and .u8 ((a : Int) / 2 ^ k) 1 == 1) = false := by
  have h0 : a / 2 ^ k % 2 = 0 := by omega
  rw [bit_u8 ha, h0]
  rfl

theorem ownU_empty (w : World) (base : Nat) (hb : base ≤ w.heap.size) : OwnR cellsU 1 9 (w.alloc (.cells #[] 9)) base (.slice (some ⟨w.heap.size, 0, none⟩) 0 0) [] := World.ownsRow_lit w #[] 0 hb (by decide) (by simp)

/-- What holds at a round's head of tagsOf. -/
structure TgS (a k : Nat) (W : World) (v : Value) (wr : World) : Prop where
  own : OwnR cellsU 1 9 wr W.heap.size v (TG a k)
  row : ∀ j, j < 6 → wr.cell? ⟨W.heap.size + 1, j, none⟩ = some (.string ⟨(tg j).toArray⟩)
  ne : v.ownBlock ≠ some (W.heap.size + 1)
  sz : W.heap.size + 1 < wr.heap.size
  bel : Below W.heap.size W wr

set_option maxHeartbeats 1000000 in
set_option maxRecDepth 100000 in
theorem tagsOf_any (a : Nat) (w : World) (ha : a < 256) :
    Calls Tryd.prog 12 #[.int .u8 (a : Int)] w fun e w' => ∃ v, e = .returned v ∧ OwnR cellsU 1 9 w' w.heap.size v (TG a 6) ∧ Below w.heap.size w w' := by
  have HROW : Hid (∀ j, j < 6 → ((w.alloc (.cells #[] 9)).alloc (.cells tagRow 9)).cell? ⟨w.heap.size + 1, j, none⟩ = some (.string ⟨(tg j).toArray⟩)) := Lib.hid (fun j hj => by
    have h := tagRow_cell (w.alloc (.cells #[] 9)) hj
    simp only [World.size_alloc] at h
    exact h)
  go_enter Tryd.func12, Tryd.ntmps12
  go_wp2_with fail
  go_loopw [3, 9] (fun v i wr => ∃ k : Nat, k ≤ 6 ∧ i = .int .i64 k ∧ TgS a k w v wr) (fun _ i _ => 6 - (intOf i).toNat)
  case atStart =>
    exact ⟨0, by decide, rfl, ⟨(ownU_empty w w.heap.size (Nat.le_refl _)).alloc _, HROW.out, by simp [Value.ownBlock], by simp, ((Below.refl _ _).alloc (Nat.le_refl _) _).alloc (by simp) _⟩⟩
  case round =>
    obtain ⟨k, hk, rfl, hst⟩ := hrel
    by_cases hlt : k < 6
    · have e0 := hst.row k hlt
      have HST := Lib.hid hst
      have hsz := hst.bel.size
      have hsz1 := hst.sz
      obtain ⟨N, hN⟩ : ∃ N : ByteArray, ⟨(tg k).toArray⟩ = N := ⟨_, rfl⟩
      have HN := Lib.hid hN
      rw [hN] at e0
      clear hst hN
      by_cases hb : a / 2 ^ k % 2 = 1
      · have ht := bit_set ha hb
        have HTG := Lib.hid (TG_set hb)
        have HO := Lib.hid (HST.out.own.alloc (.cells #[.string N] 9))
        have HNEW : Hid (∀ j u, (cellsU (tg k))[j]? = some u → (wr.alloc (.cells #[.string N] 9)).cell? ⟨wr.heap.size, j, none⟩ = some u) := Lib.hid (by
          intro j u hu
          match j, hu with
          | 0, hu => simp [cellsU] at hu; subst hu; simp [HN.out])
        have HL : Hid ((TG a k).length < 4294967296) := Lib.hid (by have := TG_len a k; omega)
        have HZ : Hid (w.heap.size ≤ (wr.alloc (.cells #[.string N] 9)).heap.size) := Lib.hid (by simp; omega)
        clear hb
        go_wp2_with ((at_builtin; (refine wpList_app1 _ rfl len_cellsU one_cellsU (by decide) 16 _ rfl (by decide) (.tmp 19) (.tmp 21) 33 9 rfl Tryd.underlying33 infoU9 w.heap.size u3 (TG a k) rfl HO.out wr.heap.size 1 (tg k) rfl HNEW.out HL.out HZ.out ?_); intro v2 w2 h2 g2 o2 n2))
        have FS : TgS a (k + 1) w v2 w2 := by
          have hs2 := g2.size
          simp only [World.size_alloc] at hs2
          refine ⟨by rw [HTG.out]; exact h2, fun j hj => ?_, ?_, by omega, ?_⟩
          · exact g2.cell (a := ⟨w.heap.size + 1, j, none⟩) ((World.cell?_alloc_lt wr _ ⟨w.heap.size + 1, j, none⟩ HST.out.sz).trans (HST.out.row j hj)) (fun e => HST.out.ne e.symm)
          · rcases o2 with h | h
            · rw [h]; exact HST.out.ne
            · rw [h]; simp; omega
          · exact (HST.out.bel.alloc HST.out.bel.size _).grown g2 HZ.out HO.out.le
        exact ⟨⟨k + 1, by omega, by go_num, FS⟩, by simp [intOf]; omega⟩
      · have ht := bit_not ha hb
        have FS : Hid (TgS a (k + 1) w u3 wr) := Lib.hid ⟨by rw [TG_not hb]; exact HST.out.own, HST.out.row, HST.out.ne, HST.out.sz, HST.out.bel⟩
        clear hb
        go_wp2_with fail
        exact ⟨⟨k + 1, by omega, by go_num, FS.out⟩, by simp [intOf]; omega⟩
    · obtain rfl : k = 6 := by omega
      have HST := Lib.hid hst
      clear hst
      go_wp2
      go_ret
      exact ⟨_, rfl, HST.out.own, HST.out.bel⟩

/-- The set of tags as a map's data. -/
def DT (l : List (List UInt8)) : DataW Unit := l.foldl (fun D s => D.put (.string s) (.lit (.bool true))) (.map [])
theorem DT_snoc (l : List (List UInt8)) (s : List UInt8) : DT (l ++ [s]) = (DT l).put (.string s) (.lit (.bool true)) := by simp [DT]

def dtOk (a x : Nat) : Bool := match (DT (TG a 6)).atKey (.string (tg x)) (.lit (.bool false)) with | .lit (.bool b) => b == decide (a / 2 ^ x % 2 = 1) | _ => false
theorem dt_ok : ((List.range 256).all fun a => (List.range 6).all fun x => dtOk a x) = true := by decide +kernel
theorem dt_at {a x : Nat} (ha : a < 256) (hx : x < 6) : (DT (TG a 6)).atKey (.string (tg x)) (.lit (.bool false)) = .lit (.bool (decide (a / 2 ^ x % 2 = 1))) := by
  have h := List.all_eq_true.1 (List.all_eq_true.1 dt_ok a (List.mem_range.2 ha)) x (List.mem_range.2 hx)
  unfold dtOk at h
  split at h
  · rename_i b hb
    rw [hb, beq_iff_eq.1 h]
  · cases h

theorem law9 : Keyed Tryd.prog 9 := string_keyed Tryd.underlying9
theorem zero4 (w : World) : (zeroValue 4).run Tryd.prog w = .ok (.bool false) w := by kernel_rfl

end Go.Proofs.YtjmmfhgdjndabaaRRDoor
