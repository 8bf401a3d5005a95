/- FnVirtuals' callees: a register as data, the collection's map, and a new register out of it. Conditions: as stated. -/
import Derived.Test.YtdajihikedjaiaaVirA
import Derived.Maps.RangeWalk
namespace Go.Proofs.Ytdajihikedjaiaa
open Go.RowKit Go.Maps

/-- A virtual register as an interface value. -/
def vReg (a b s : Nat) : Value := .iface 70 (.agg #[.int .u16 (a : Int), .int .u8 (b : Int), .int .u16 (s : Int)])
/-- A register as data. -/
def told (a b s : Nat) (N : ByteArray) : Value := .agg #[.int .i64 (b : Int), .int .u32 (idOf a b : Nat), .int .u16 (s : Int), .int .i64 (szOf s : Nat), .string N, .bool true]

set_option maxRecDepth 100000 in
theorem toV_any (a b s : Int) (w : World) :
    Calls Try.prog 12 #[.iface 70 (.agg #[.int .u16 a, .int .u8 b, .int .u16 s])] w fun e w' => e = .returned (.iface 70 (.agg #[.int .u16 a, .int .u8 b, .int .u16 s])) ∧ w = w' := by
  have h : (Instr.typeAssert (.iface 70 (.agg #[.int .u16 a, .int .u8 b, .int .u16 s])) 59 47 true).run Try.prog w = .ok (.tuple #[.iface 70 (.agg #[.int .u16 a, .int .u8 b, .int .u16 s]), .bool true]) w := by kernel_rfl
  go_enter Try.func12, Try.ntmps12
  go_wp2_with fail
  go_ret
  exact ⟨rfl, rfl⟩

set_option maxHeartbeats 1000000 in
set_option maxRecDepth 100000 in
theorem told_any (a b s : Nat) (w : World) (ha : a < 50) (hb : b < 4) (hs : s < 128) :
    Calls Try.prog 10 #[vReg a b s] w fun e w' => ∃ N, e = .returned (told a b s N) ∧ Below w.heap.size w w' := by
  unfold vReg told
  have HK := Lib.hid (fun W => kind_any (a : Int) (b : Int) (s : Int) W)
  have HI := Lib.hid (fun W => id_any a b (s : Int) W ha hb)
  have HM := Lib.hid (fun W => mask_any (s : Int) W)
  have HS := Lib.hid (fun W => size_any s W hs)
  have HA := Lib.hid (fun W => asm_any a b s W ha hb hs)
  have HV := Lib.hid (fun W => toV_any (a : Int) (b : Int) (s : Int) W)
  have hz64 := (sz_at hs).2
  obtain ⟨z, hz⟩ : ∃ z, szOf s = z := ⟨_, rfl⟩
  obtain ⟨i, hi⟩ : ∃ i, idOf a b = i := ⟨_, rfl⟩
  rw [hz] at HS hz64 ⊢
  rw [hi] at HI ⊢
  clear hz hi
  go_enter Try.func10, Try.ntmps10
  go_wp2_with fail
  refine (HK.out _).mono ?_
  rintro e w1 ⟨rfl, b1⟩
  go_wp2_with fail
  refine (HI.out _).mono ?_
  rintro e w2 ⟨rfl, b2⟩
  go_wp2_with fail
  refine (HM.out _).mono ?_
  rintro e w2' ⟨rfl, rfl⟩
  go_wp2_with fail
  refine (HS.out _).mono ?_
  rintro e w3' ⟨rfl, rfl⟩
  go_wp2_with fail
  refine (HA.out _).mono ?_
  rintro e w3 ⟨N, rfl, b3⟩
  go_wp2_with fail
  refine (HV.out _).mono ?_
  rintro e w4' ⟨rfl, rfl⟩
  have hall := b1.trans ((b2.mono b1.size).trans (b3.mono (Nat.le_trans b1.size b2.size)))
  have hlt : w.heap.size < (w.alloc (.cells #[.int .i64 0, .int .u32 0, .int .u16 0, .int .i64 0, .string ⟨#[]⟩, .bool false] 35)).heap.size := by simp
  have c0 := (hall.cell (p := ⟨w.heap.size, 0, none⟩) hlt).trans (show _ = some (Value.int .i64 0) by simp)
  have c1 := (hall.cell (p := ⟨w.heap.size, 1, none⟩) hlt).trans (show _ = some (Value.int .u32 0) by simp)
  have c2 := (hall.cell (p := ⟨w.heap.size, 2, none⟩) hlt).trans (show _ = some (Value.int .u16 0) by simp)
  have c3 := (hall.cell (p := ⟨w.heap.size, 3, none⟩) hlt).trans (show _ = some (Value.int .i64 0) by simp)
  have c4 := (hall.cell (p := ⟨w.heap.size, 4, none⟩) hlt).trans (show _ = some (Value.string ⟨#[]⟩) by simp)
  have c5 := (hall.cell (p := ⟨w.heap.size, 5, none⟩) hlt).trans (show _ = some (Value.bool false) by simp)
  have hfz : ∀ i, w3.frozen? ⟨w.heap.size, i, none⟩ = false := fun i => (hall.frozen (p := ⟨w.heap.size, i, none⟩) hlt).trans (by
    unfold World.frozen?
    rw [show (w.alloc _).heap[(⟨w.heap.size, i, none⟩ : Addr).block]? = some _ from (MapKept.heap_alloc w _).1]
    simp)
  have f0 := hfz 0
  have f1 := hfz 1
  have f2 := hfz 2
  have f3 := hfz 3
  have f4 := hfz 4
  have f5 := hfz 5
  have F : Hid (Below w.heap.size w w3) := Lib.hid (((Below.refl _ _).alloc (Nat.le_refl _) _).trans (hall.mono (by simp)))
  clear hall b1 b2 b3 hlt hfz HK HI HM HS HA HV
  go_wp2_with fail
  refine bodyPost_ret (v := .agg #[.int .i64 (b : Int), .int .u32 (i : Int), .int .u16 (s : Int), .int .i64 (z : Int), .string N, .bool true]) (by simp [results, Try.results10, go_sem, c0, c1, c2, c3, c4, c5]) rfl ⟨N, rfl, ?_⟩
  have F' := F.out
  exact (((((F'.setCell (Nat.le_refl _) _).setCell (Nat.le_refl _) _).setCell (Nat.le_refl _) _).setCell (Nat.le_refl _) _).setCell (Nat.le_refl _) _).setCell (Nat.le_refl _) _

end Go.Proofs.Ytdajihikedjaiaa
