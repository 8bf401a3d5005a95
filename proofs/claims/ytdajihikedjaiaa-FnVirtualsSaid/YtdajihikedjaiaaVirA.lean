/- FnVirtuals' callees: a virtual register's number, kind, parts, bytes and text. Conditions: indices below fifty, kinds below four, nine parts. -/
import Derived.Test.YtdajihikedjaiaaShV
import Derived.WalkKit
import Derived.BigRegion
import Derived.Below
import Derived.Handy
import Derived.Lib.Hide
import Derived.Deep.RegionHeld3
import Derived.Laws.BitsAllLaws
namespace Go.Proofs.Ytdajihikedjaiaa
open Go.RowKit

/-- Half a number of parts and its odd one: the bytes. -/
def szOf (s : Nat) : Nat := s / 2 + s % 2
/-- A virtual register's number. -/
def idOf (i k : Nat) : Nat := 1 + 256 * k + 65536 * i

theorem virt_any (a b c : Int) (w : World) :
    Calls Try.prog 13 #[.int .u16 a, .int .u8 b, .int .u16 c] w fun e w' => e = .returned (.iface 70 (.agg #[.int .u16 a, .int .u8 b, .int .u16 c])) ∧ w = w' := by
  go_enter Try.func13, Try.ntmps13
  go_wp2
  go_ret
  exact ⟨rfl, rfl⟩

theorem or_all : ((List.range 50).all fun a => (List.range 4).all fun b => bits .or .u32 (bits .or .u32 1 ((b : Int) * 256)) ((a : Int) * 65536) == ((1 + 256 * b + 65536 * a : Nat) : Int)) = true := by decide +kernel
theorem or_at {a b : Nat} (ha : a < 50) (hb : b < 4) : bits .or .u32 (bits .or .u32 1 ((b : Int) * 256)) ((a : Int) * 65536) = ((idOf a b : Nat) : Int) := by
  have h := List.all_eq_true.1 (List.all_eq_true.1 or_all a (List.mem_range.2 ha)) b (List.mem_range.2 hb)
  exact eq_of_beq h

theorem newid_any (a b : Nat) (w : World) (ha : a < 50) (hb : b < 4) :
    Calls Try.prog 70 #[.int .u8 1, .int .u8 (b : Int), .int .u16 (a : Int)] w fun e w' => e = .returned (.int .u32 (idOf a b : Nat)) ∧ w = w' := by
  have h := or_at ha hb
  go_enter Try.func70, Try.ntmps70
  go_wp2_with fail
  go_ret
  exact ⟨rfl, rfl⟩

theorem sz_all : ((List.range 128).all fun s => IntKind.u64.wrap ((s : Int) / 2 + bits .and .u64 (s : Int) 1) == ((szOf s : Nat) : Int) && decide (szOf s ≤ 64)) = true := by decide +kernel
theorem sz_at {s : Nat} (hs : s < 128) : IntKind.u64.wrap ((s : Int) / 2 + bits .and .u64 (s : Int) 1) = ((szOf s : Nat) : Int) ∧ szOf s ≤ 64 := by
  have h := List.all_eq_true.1 sz_all s (List.mem_range.2 hs)
  simp only [Bool.and_eq_true, decide_eq_true_eq] at h
  exact ⟨eq_of_beq h.1, h.2⟩

theorem size_any (s : Nat) (w : World) (hs : s < 128) :
    Calls Try.prog 33 #[.int .u16 (s : Int)] w fun e w' => e = .returned (.int .u64 (szOf s : Nat)) ∧ w = w' := by
  have h := (sz_at hs).1
  go_enter Try.func33, Try.ntmps33
  go_wp2_with fail
  go_ret
  exact ⟨rfl, rfl⟩

theorem mask_any (c : Int) (w : World) :
    Calls Try.prog 32 #[.int .u16 c] w fun e w' => e = .returned (.int .u16 c) ∧ w = w' := by
  go_enter Try.func32, Try.ntmps32
  go_wp2
  go_ret
  exact ⟨rfl, rfl⟩

theorem kind_any (a b c : Int) (w : World) :
    Calls Try.prog 64 #[.agg #[.int .u16 a, .int .u8 b, .int .u16 c]] w fun e w' => e = .returned (.int .u8 b) ∧ Below w.heap.size w w' := by
  go_enter Try.func64, Try.ntmps64
  go_wp2_with fail
  go_ret
  exact ⟨rfl, (Below.refl _ _).alloc (Nat.le_refl _) _⟩

theorem id_any (a b : Nat) (c : Int) (w : World) (ha : a < 50) (hb : b < 4) :
    Calls Try.prog 63 #[.agg #[.int .u16 (a : Int), .int .u8 (b : Int), .int .u16 c]] w fun e w' => e = .returned (.int .u32 (idOf a b : Nat)) ∧ Below w.heap.size w w' := by
  have H := Lib.hid (fun W => newid_any a b W ha hb)
  go_enter Try.func63, Try.ntmps63
  go_wp2_with (first
    | (go_at_call 70; refine (H.out _).mono ?_; rintro e w' ⟨rfl, rfl⟩))
  go_ret
  refine ⟨rfl, ?_⟩
  first
    | exact (Below.refl _ _).alloc (Nat.le_refl _) _
    | exact ((Below.refl _ _).alloc (Nat.le_refl _) _).drew

theorem dec_all : ((List.range 100).all fun i => decide ((Lib.decDigits i).length ≤ 20)) = true := by decide +kernel
theorem itoa_any (x : Nat) (w : World) (hx : x < 100) :
    Calls Try.prog 69 #[.int .i64 (x : Int)] w fun e w' => e = .returned (.string ⟨(Lib.decDigits x).toArray⟩) ∧ w = w' :=
  (Try.strconv_Itoa_small x hx w).mono fun e w' ⟨h1, h2⟩ => ⟨h1, h2.symm⟩
theorem dec_len {x : Nat} (hx : x < 100) : (⟨(Lib.decDigits x).toArray⟩ : ByteArray).size ≤ 20 := by
  have h := List.all_eq_true.1 dec_all x (List.mem_range.2 hx)
  simpa [ByteArray.size] using h
theorem cat_ex (x y : ByteArray) (m n : Nat) (hx : x.size ≤ m) (hy : y.size ≤ n) (h : m + n ≤ 1000) : ∃ T : ByteArray, T.size ≤ m + n ∧ ∀ W, (Op.stringOp .add x y).run Try.prog W = .ok (.string T) W :=
  ⟨x ++ y, by simp [ByteArray.size_append]; omega, fun W => run_string_add_sum W x y (by omega)⟩

set_option maxRecDepth 100000 in
theorem asm_any (a b s : Nat) (w : World) (ha : a < 50) (hb : b < 4) (hs : s < 128) :
    Calls Try.prog 62 #[.agg #[.int .u16 (a : Int), .int .u8 (b : Int), .int .u16 (s : Int)]] w fun e w' => ∃ N : ByteArray, e = .returned (.string N) ∧ Below w.heap.size w w' := by
  have HA := Lib.hid (fun W => itoa_any a W (by omega))
  have HB := Lib.hid (fun W => itoa_any b W (by omega))
  have HS := Lib.hid (fun W => itoa_any (szOf s) W (by have := (sz_at hs).2; omega))
  have HZ := Lib.hid (fun W => size_any s W hs)
  have HK := Lib.hid (fun W => kind_any (a : Int) (b : Int) (s : Int) W)
  have hz64 := (sz_at hs).2
  obtain ⟨z, hz⟩ : ∃ z, szOf s = z := ⟨_, rfl⟩
  rw [hz] at HS HZ hz64
  clear hz
  have sa := dec_len (x := a) (by omega)
  have sb := dec_len (x := b) (by omega)
  have sz := dec_len (x := z) (by omega)
  obtain ⟨Na, hNa⟩ : ∃ N : ByteArray, ⟨(Lib.decDigits a).toArray⟩ = N := ⟨_, rfl⟩
  obtain ⟨Nb, hNb⟩ : ∃ N : ByteArray, ⟨(Lib.decDigits b).toArray⟩ = N := ⟨_, rfl⟩
  obtain ⟨Nz, hNz⟩ : ∃ N : ByteArray, ⟨(Lib.decDigits z).toArray⟩ = N := ⟨_, rfl⟩
  rw [hNa] at HA sa
  rw [hNb] at HB sb
  rw [hNz] at HS sz
  clear hNa hNb hNz
  obtain ⟨T1, t1, k1⟩ := cat_ex ⟨#[60, 118, 105, 114, 116, 117, 97, 108, 58]⟩ Na 9 20 (by decide) sa (by omega)
  obtain ⟨T2, t2, k2⟩ := cat_ex T1 ⟨#[58]⟩ _ 1 t1 (by decide) (by omega)
  obtain ⟨T3, t3, k3⟩ := cat_ex T2 Nb _ 20 t2 sb (by omega)
  obtain ⟨T4, t4, k4⟩ := cat_ex T3 ⟨#[58]⟩ _ 1 t3 (by decide) (by omega)
  obtain ⟨T5, t5, k5⟩ := cat_ex T4 Nz _ 20 t4 sz (by omega)
  obtain ⟨T6, t6, k6⟩ := cat_ex T5 ⟨#[62]⟩ _ 1 t5 (by decide) (by omega)
  clear sa sb sz t1 t2 t3 t4 t5 t6
  have m1 : IntKind.i64.wrap (a : Int) = a := IntWalk.i64_in _ (by omega)
  have m2 : IntKind.i64.wrap (b : Int) = b := IntWalk.i64_in _ (by omega)
  have m3 : IntKind.i64.wrap (z : Int) = z := IntWalk.i64_in _ (by omega)
  go_enter Try.func62, Try.ntmps62
  go_wp2_with fail
  have c0 : (w.alloc (.cells #[.int .u16 (a : Int), .int .u8 (b : Int), .int .u16 (s : Int)] 70)).cell? ⟨w.heap.size, 0, none⟩ = some (.int .u16 (a : Int)) := by simp
  have c1 : (w.alloc (.cells #[.int .u16 (a : Int), .int .u8 (b : Int), .int .u16 (s : Int)] 70)).cell? ⟨w.heap.size, 1, none⟩ = some (.int .u8 (b : Int)) := by simp
  have c2 : (w.alloc (.cells #[.int .u16 (a : Int), .int .u8 (b : Int), .int .u16 (s : Int)] 70)).cell? ⟨w.heap.size, 2, none⟩ = some (.int .u16 (s : Int)) := by simp
  have hlt : w.heap.size < (w.alloc (.cells #[.int .u16 (a : Int), .int .u8 (b : Int), .int .u16 (s : Int)] 70)).heap.size := by simp
  have F : Hid (Below w.heap.size w (w.alloc (.cells #[.int .u16 (a : Int), .int .u8 (b : Int), .int .u16 (s : Int)] 70))) := Lib.hid ((Below.refl _ _).alloc (Nat.le_refl _) _)
  generalize w.alloc (.cells #[.int .u16 (a : Int), .int .u8 (b : Int), .int .u16 (s : Int)] 70) = W0 at c0 c1 c2 hlt F ⊢
  go_region_held3 (fun w' => w'.cell? ⟨w.heap.size, 0, none⟩ = some (.int .u16 (a : Int)) ∧ w'.cell? ⟨w.heap.size, 1, none⟩ = some (.int .u8 (b : Int)) ∧ w'.cell? ⟨w.heap.size, 2, none⟩ = some (.int .u16 (s : Int)))
    (go_keep)
    ((first
      | (go_at_call 69; refine (HA.out _).mono ?_; rintro e v1 ⟨rfl, rfl⟩)
      | (go_at_call 69; refine (HB.out _).mono ?_; rintro e v2 ⟨rfl, rfl⟩)
      | (go_at_call 69; refine (HS.out _).mono ?_; rintro e v3 ⟨rfl, rfl⟩)
      | (go_at_call 33; refine (HZ.out _).mono ?_; rintro e v4 ⟨rfl, rfl⟩)
      | (go_at_call 64; refine (HK.out _).mono ?_; rintro e w2 ⟨rfl, hb2⟩; have d0 := (hb2.cell (p := ⟨w.heap.size, 0, none⟩) hlt).trans c0; have d1 := (hb2.cell (p := ⟨w.heap.size, 1, none⟩) hlt).trans c1; have d2 := (hb2.cell (p := ⟨w.heap.size, 2, none⟩) hlt).trans c2)))
  all_goals go_wp2
  all_goals go_ret
  all_goals exact ⟨_, rfl, F.out.trans (Below.mono (⟨hb2.os, hb2.tape, hb2.output, hb2.size, hb2.block⟩ : Below W0.heap.size W0 w2) F.out.size)⟩

end Go.Proofs.Ytdajihikedjaiaa
