/- Walk of the attributes' split: the names of a number's bits. Conditions: the library's table lies as it is laid; twelve bits, the eighth not set. -/
import Derived.Test.YtjmmfhgdjndabaaRRDoorAttrW
namespace Go.Proofs.YtjmmfhgdjndabaaRRDoor
open Go.RowKit Go.Maps

/-- The cell of a text. -/
def cellsT (s : List UInt8) : List Value := [.string ⟨s.toArray⟩]
theorem len_cellsT (s : List UInt8) : (cellsT s).length = 1 := rfl
theorem one_cellsT (s : List UInt8) : ∀ u ∈ cellsT s, u.oneCell' = true := by
  intro u hu
  simp [cellsT] at hu
  subst hu
  rfl
theorem info9 : (Tryd.prog.info? 9).map (fun i => (i.zero, i.size, i.bytes)) = some (some (.string ⟨#[]⟩), 1, 16) := by kernel_rfl

theorem xor_low {a i P : Nat} {p : Int} (hp : p = (P : Int)) (hP : P = 2 ^ i) (ha : Good a) (h0 : 0 < a) (hi : lo a = i) (h12 : i < 12) : bits .xor .u16 (a : Int) p = ((a - P : Nat) : Int) := by
  have h5 := (lo_facts ha h0).2.2.2.2.1
  have h1 := ha.1
  have h2 : 2 ^ i < 65536 := Nat.lt_of_lt_of_le (Nat.pow_lt_pow_right (by decide) h12) (by decide)
  rw [hp, hP, u16_xor_nat a (2 ^ i) (by omega) h2, ← hi, h5]

/-- What holds at a round's head of split. -/
structure SpS (a0 a : Nat) (F : List (List UInt8)) (W : World) (v : Value) (wr : World) : Prop where
  good : Good a
  eq : F ++ NB a 12 = NB a0 12
  own : OwnR cellsT 1 9 wr W.heap.size v F
  bel : Below W.heap.size W wr

set_option maxHeartbeats 4000000 in
set_option maxRecDepth 100000 in
theorem split_any (a0 : Nat) (w : World) (ha : Good a0) (hT : TabT w) (hs : 0 < w.heap.size) :
    Calls Tryd.prog 29 #[.int .u16 (a0 : Int)] w fun e w' => ∃ v, e = .returned (.tuple #[v, .int .u16 0]) ∧ OwnR cellsT 1 9 w' w.heap.size v (NB a0 12) ∧ Below w.heap.size w w' := by
  have HT := Lib.hid hT
  have HA := Lib.hid ha
  clear hT ha
  go_enter Tryd.func29, Tryd.ntmps29
  go_wp2_with fail
  go_loopw [0, 4, 5] (fun x v r wr => ∃ (a : Nat) (F : List (List UInt8)), x = .int .u16 (a : Int) ∧ r = .int .u16 0 ∧ SpS a0 a F w v wr) (fun x _ _ _ => (intOf x).toNat)
  case atStart => exact ⟨a0, [], rfl, rfl, ⟨HA.out, by simp, OwnR.nil _ _ _ _ _, Below.refl _ _⟩⟩
  case round =>
    obtain ⟨a, F, rfl, rfl, hst⟩ := hrel
    by_cases h0 : a = 0
    · subst h0
      have HS := Lib.hid hst
      clear hst
      go_wp2_with fail
      go_ret2
      refine ⟨_, rfl, ?_, HS.out.bel⟩
      have e : F = NB a0 12 := by
        have := HS.out.eq
        have z : NB 0 12 = [] := by decide
        rw [z, List.append_nil] at this
        exact this
      rw [← e]
      exact HS.out.own
    · have h0' : 0 < a := by omega
      have hne : ((a : Int) != 0) = true := by simp; omega
      obtain ⟨p1, p2, -, -, -, p6, p7⟩ := lo_facts hst.good h0'
      have hnb := NB_lo hst.good h0'
      have hTr := hst.bel
      have hT2 : TabT wr := HT.out.below hs hst.bel
      have hcase : lo a = 0 ∨ lo a = 1 ∨ lo a = 2 ∨ lo a = 3 ∨ lo a = 4 ∨ lo a = 5 ∨ lo a = 6 ∨ lo a = 8 ∨ lo a = 9 ∨ lo a = 10 ∨ lo a = 11 := by omega
      have HSG := Lib.hid hst.good
      have HSE := Lib.hid hst.eq
      have HSO := Lib.hid hst.own
      have HSB := Lib.hid hst.bel
      have HNB := Lib.hid hnb
      have HP6 := Lib.hid p6
      have hFl : F.length < 4294967296 := by
        have h1 := congrArg List.length hst.eq
        have h2 := NB_len a0 12
        simp at h1
        omega
      have HFL := Lib.hid hFl
      clear hst hnb hTr p1 p2 p6 hFl h0
      rcases hcase with hi | hi | hi | hi | hi | hi | hi | hi | hi | hi | hi
      · have HTZ := Lib.hid (tz_0 a wr HSG.out h0' hi hT2)
        have hx : bits .xor .u16 (a : Int) 1 = ((a - 1 : Nat) : Int) := xor_low (i := 0) (P := 1) (p := 1) rfl rfl HSG.out h0' hi (by decide)
        rw [hi] at HNB HP6 p7
        have hPa : 1 ≤ a := p7
        clear hi hT2 p7
        go_wp2_with fail
        refine HTZ.out.mono ?_
        rintro e w1 ⟨rfl, rfl⟩
        go_wp2_with fail
        refine (attrname_any _).mono ?_
        rintro e w2 ⟨mb, rfl, hown, hb2⟩
        have hlk : (Instr.lookup 70 (.map (some mb)) (.int .u16 1) false).run Tryd.prog w2 = .ok (.string ⟨#[78, 79, 80, 82, 79, 70]⟩) w2 := look_any hown 1 (nm 0) (by decide) at_0
        have HO2 := Lib.hid ((HSO.out.below hb2).alloc (.cells #[.string ⟨#[78, 79, 80, 82, 79, 70]⟩] 9))
        have HN : Hid (∀ j u, (cellsT (nm 0))[j]? = some u → (w2.alloc (.cells #[.string ⟨#[78, 79, 80, 82, 79, 70]⟩] 9)).cell? ⟨w2.heap.size, j, none⟩ = some u) := Lib.hid (by
          intro j u hu
          match j, hu with
          | 0, hu => simp [cellsT] at hu; subst hu; simp [nm])
        have HB2 := Lib.hid (HSB.out.trans (hb2.mono HSB.out.size))
        have HZ2 : Hid (w.heap.size ≤ (w2.alloc (.cells #[.string ⟨#[78, 79, 80, 82, 79, 70]⟩] 9)).heap.size) := Lib.hid (by have := HB2.out.size; simp; omega)
        clear hown hb2
        go_wp2_with ((at_builtin; (refine wpList_app1 _ rfl len_cellsT one_cellsT (by decide) 16 _ rfl (by decide) (.tmp 21) (.tmp 23) 33 9 rfl Tryd.underlying33 info9 w.heap.size u4 F rfl HO2.out w2.heap.size 1 (nm 0) rfl HN.out HFL.out HZ2.out ?_); intro v3 w3 h3 g3 o3 n3))
        have FS : Hid (SpS a0 (a - 1) (F ++ [nm 0]) w v3 w3) := Lib.hid ⟨HP6.out, by rw [← HSE.out, HNB.out]; simp, h3, (HB2.out.alloc HB2.out.size _).grown g3 HZ2.out HO2.out.le⟩
        clear h3 g3 o3 n3
        exact ⟨⟨a - 1, F ++ [nm 0], rfl, rfl, FS.out⟩, by simp [intOf]; omega⟩
      · have HTZ := Lib.hid (tz_1 a wr HSG.out h0' hi hT2)
        have hx : bits .xor .u16 (a : Int) 2 = ((a - 2 : Nat) : Int) := xor_low (i := 1) (P := 2) (p := 2) rfl rfl HSG.out h0' hi (by decide)
        rw [hi] at HNB HP6 p7
        have hPa : 2 ≤ a := p7
        clear hi hT2 p7
        go_wp2_with fail
        refine HTZ.out.mono ?_
        rintro e w1 ⟨rfl, rfl⟩
        go_wp2_with fail
        refine (attrname_any _).mono ?_
        rintro e w2 ⟨mb, rfl, hown, hb2⟩
        have hlk : (Instr.lookup 70 (.map (some mb)) (.int .u16 2) false).run Tryd.prog w2 = .ok (.string ⟨#[68, 85, 80, 79, 75]⟩) w2 := look_any hown 2 (nm 1) (by decide) at_1
        have HO2 := Lib.hid ((HSO.out.below hb2).alloc (.cells #[.string ⟨#[68, 85, 80, 79, 75]⟩] 9))
        have HN : Hid (∀ j u, (cellsT (nm 1))[j]? = some u → (w2.alloc (.cells #[.string ⟨#[68, 85, 80, 79, 75]⟩] 9)).cell? ⟨w2.heap.size, j, none⟩ = some u) := Lib.hid (by
          intro j u hu
          match j, hu with
          | 0, hu => simp [cellsT] at hu; subst hu; simp [nm])
        have HB2 := Lib.hid (HSB.out.trans (hb2.mono HSB.out.size))
        have HZ2 : Hid (w.heap.size ≤ (w2.alloc (.cells #[.string ⟨#[68, 85, 80, 79, 75]⟩] 9)).heap.size) := Lib.hid (by have := HB2.out.size; simp; omega)
        clear hown hb2
        go_wp2_with ((at_builtin; (refine wpList_app1 _ rfl len_cellsT one_cellsT (by decide) 16 _ rfl (by decide) (.tmp 21) (.tmp 23) 33 9 rfl Tryd.underlying33 info9 w.heap.size u4 F rfl HO2.out w2.heap.size 1 (nm 1) rfl HN.out HFL.out HZ2.out ?_); intro v3 w3 h3 g3 o3 n3))
        have FS : Hid (SpS a0 (a - 2) (F ++ [nm 1]) w v3 w3) := Lib.hid ⟨HP6.out, by rw [← HSE.out, HNB.out]; simp, h3, (HB2.out.alloc HB2.out.size _).grown g3 HZ2.out HO2.out.le⟩
        clear h3 g3 o3 n3
        exact ⟨⟨a - 2, F ++ [nm 1], rfl, rfl, FS.out⟩, by simp [intOf]; omega⟩
      · have HTZ := Lib.hid (tz_2 a wr HSG.out h0' hi hT2)
        have hx : bits .xor .u16 (a : Int) 4 = ((a - 4 : Nat) : Int) := xor_low (i := 2) (P := 4) (p := 4) rfl rfl HSG.out h0' hi (by decide)
        rw [hi] at HNB HP6 p7
        have hPa : 4 ≤ a := p7
        clear hi hT2 p7
        go_wp2_with fail
        refine HTZ.out.mono ?_
        rintro e w1 ⟨rfl, rfl⟩
        go_wp2_with fail
        refine (attrname_any _).mono ?_
        rintro e w2 ⟨mb, rfl, hown, hb2⟩
        have hlk : (Instr.lookup 70 (.map (some mb)) (.int .u16 4) false).run Tryd.prog w2 = .ok (.string ⟨#[78, 79, 83, 80, 76, 73, 84]⟩) w2 := look_any hown 4 (nm 2) (by decide) at_2
        have HO2 := Lib.hid ((HSO.out.below hb2).alloc (.cells #[.string ⟨#[78, 79, 83, 80, 76, 73, 84]⟩] 9))
        have HN : Hid (∀ j u, (cellsT (nm 2))[j]? = some u → (w2.alloc (.cells #[.string ⟨#[78, 79, 83, 80, 76, 73, 84]⟩] 9)).cell? ⟨w2.heap.size, j, none⟩ = some u) := Lib.hid (by
          intro j u hu
          match j, hu with
          | 0, hu => simp [cellsT] at hu; subst hu; simp [nm])
        have HB2 := Lib.hid (HSB.out.trans (hb2.mono HSB.out.size))
        have HZ2 : Hid (w.heap.size ≤ (w2.alloc (.cells #[.string ⟨#[78, 79, 83, 80, 76, 73, 84]⟩] 9)).heap.size) := Lib.hid (by have := HB2.out.size; simp; omega)
        clear hown hb2
        go_wp2_with ((at_builtin; (refine wpList_app1 _ rfl len_cellsT one_cellsT (by decide) 16 _ rfl (by decide) (.tmp 21) (.tmp 23) 33 9 rfl Tryd.underlying33 info9 w.heap.size u4 F rfl HO2.out w2.heap.size 1 (nm 2) rfl HN.out HFL.out HZ2.out ?_); intro v3 w3 h3 g3 o3 n3))
        have FS : Hid (SpS a0 (a - 4) (F ++ [nm 2]) w v3 w3) := Lib.hid ⟨HP6.out, by rw [← HSE.out, HNB.out]; simp, h3, (HB2.out.alloc HB2.out.size _).grown g3 HZ2.out HO2.out.le⟩
        clear h3 g3 o3 n3
        exact ⟨⟨a - 4, F ++ [nm 2], rfl, rfl, FS.out⟩, by simp [intOf]; omega⟩
      · have HTZ := Lib.hid (tz_3 a wr HSG.out h0' hi hT2)
        have hx : bits .xor .u16 (a : Int) 8 = ((a - 8 : Nat) : Int) := xor_low (i := 3) (P := 8) (p := 8) rfl rfl HSG.out h0' hi (by decide)
        rw [hi] at HNB HP6 p7
        have hPa : 8 ≤ a := p7
        clear hi hT2 p7
        go_wp2_with fail
        refine HTZ.out.mono ?_
        rintro e w1 ⟨rfl, rfl⟩
        go_wp2_with fail
        refine (attrname_any _).mono ?_
        rintro e w2 ⟨mb, rfl, hown, hb2⟩
        have hlk : (Instr.lookup 70 (.map (some mb)) (.int .u16 8) false).run Tryd.prog w2 = .ok (.string ⟨#[82, 79, 68, 65, 84, 65]⟩) w2 := look_any hown 8 (nm 3) (by decide) at_3
        have HO2 := Lib.hid ((HSO.out.below hb2).alloc (.cells #[.string ⟨#[82, 79, 68, 65, 84, 65]⟩] 9))
        have HN : Hid (∀ j u, (cellsT (nm 3))[j]? = some u → (w2.alloc (.cells #[.string ⟨#[82, 79, 68, 65, 84, 65]⟩] 9)).cell? ⟨w2.heap.size, j, none⟩ = some u) := Lib.hid (by
          intro j u hu
          match j, hu with
          | 0, hu => simp [cellsT] at hu; subst hu; simp [nm])
        have HB2 := Lib.hid (HSB.out.trans (hb2.mono HSB.out.size))
        have HZ2 : Hid (w.heap.size ≤ (w2.alloc (.cells #[.string ⟨#[82, 79, 68, 65, 84, 65]⟩] 9)).heap.size) := Lib.hid (by have := HB2.out.size; simp; omega)
        clear hown hb2
        go_wp2_with ((at_builtin; (refine wpList_app1 _ rfl len_cellsT one_cellsT (by decide) 16 _ rfl (by decide) (.tmp 21) (.tmp 23) 33 9 rfl Tryd.underlying33 info9 w.heap.size u4 F rfl HO2.out w2.heap.size 1 (nm 3) rfl HN.out HFL.out HZ2.out ?_); intro v3 w3 h3 g3 o3 n3))
        have FS : Hid (SpS a0 (a - 8) (F ++ [nm 3]) w v3 w3) := Lib.hid ⟨HP6.out, by rw [← HSE.out, HNB.out]; simp, h3, (HB2.out.alloc HB2.out.size _).grown g3 HZ2.out HO2.out.le⟩
        clear h3 g3 o3 n3
        exact ⟨⟨a - 8, F ++ [nm 3], rfl, rfl, FS.out⟩, by simp [intOf]; omega⟩
      · have HTZ := Lib.hid (tz_4 a wr HSG.out h0' hi hT2)
        have hx : bits .xor .u16 (a : Int) 16 = ((a - 16 : Nat) : Int) := xor_low (i := 4) (P := 16) (p := 16) rfl rfl HSG.out h0' hi (by decide)
        rw [hi] at HNB HP6 p7
        have hPa : 16 ≤ a := p7
        clear hi hT2 p7
        go_wp2_with fail
        refine HTZ.out.mono ?_
        rintro e w1 ⟨rfl, rfl⟩
        go_wp2_with fail
        refine (attrname_any _).mono ?_
        rintro e w2 ⟨mb, rfl, hown, hb2⟩
        have hlk : (Instr.lookup 70 (.map (some mb)) (.int .u16 16) false).run Tryd.prog w2 = .ok (.string ⟨#[78, 79, 80, 84, 82]⟩) w2 := look_any hown 16 (nm 4) (by decide) at_4
        have HO2 := Lib.hid ((HSO.out.below hb2).alloc (.cells #[.string ⟨#[78, 79, 80, 84, 82]⟩] 9))
        have HN : Hid (∀ j u, (cellsT (nm 4))[j]? = some u → (w2.alloc (.cells #[.string ⟨#[78, 79, 80, 84, 82]⟩] 9)).cell? ⟨w2.heap.size, j, none⟩ = some u) := Lib.hid (by
          intro j u hu
          match j, hu with
          | 0, hu => simp [cellsT] at hu; subst hu; simp [nm])
        have HB2 := Lib.hid (HSB.out.trans (hb2.mono HSB.out.size))
        have HZ2 : Hid (w.heap.size ≤ (w2.alloc (.cells #[.string ⟨#[78, 79, 80, 84, 82]⟩] 9)).heap.size) := Lib.hid (by have := HB2.out.size; simp; omega)
        clear hown hb2
        go_wp2_with ((at_builtin; (refine wpList_app1 _ rfl len_cellsT one_cellsT (by decide) 16 _ rfl (by decide) (.tmp 21) (.tmp 23) 33 9 rfl Tryd.underlying33 info9 w.heap.size u4 F rfl HO2.out w2.heap.size 1 (nm 4) rfl HN.out HFL.out HZ2.out ?_); intro v3 w3 h3 g3 o3 n3))
        have FS : Hid (SpS a0 (a - 16) (F ++ [nm 4]) w v3 w3) := Lib.hid ⟨HP6.out, by rw [← HSE.out, HNB.out]; simp, h3, (HB2.out.alloc HB2.out.size _).grown g3 HZ2.out HO2.out.le⟩
        clear h3 g3 o3 n3
        exact ⟨⟨a - 16, F ++ [nm 4], rfl, rfl, FS.out⟩, by simp [intOf]; omega⟩
      · have HTZ := Lib.hid (tz_5 a wr HSG.out h0' hi hT2)
        have hx : bits .xor .u16 (a : Int) 32 = ((a - 32 : Nat) : Int) := xor_low (i := 5) (P := 32) (p := 32) rfl rfl HSG.out h0' hi (by decide)
        rw [hi] at HNB HP6 p7
        have hPa : 32 ≤ a := p7
        clear hi hT2 p7
        go_wp2_with fail
        refine HTZ.out.mono ?_
        rintro e w1 ⟨rfl, rfl⟩
        go_wp2_with fail
        refine (attrname_any _).mono ?_
        rintro e w2 ⟨mb, rfl, hown, hb2⟩
        have hlk : (Instr.lookup 70 (.map (some mb)) (.int .u16 32) false).run Tryd.prog w2 = .ok (.string ⟨#[87, 82, 65, 80, 80, 69, 82]⟩) w2 := look_any hown 32 (nm 5) (by decide) at_5
        have HO2 := Lib.hid ((HSO.out.below hb2).alloc (.cells #[.string ⟨#[87, 82, 65, 80, 80, 69, 82]⟩] 9))
        have HN : Hid (∀ j u, (cellsT (nm 5))[j]? = some u → (w2.alloc (.cells #[.string ⟨#[87, 82, 65, 80, 80, 69, 82]⟩] 9)).cell? ⟨w2.heap.size, j, none⟩ = some u) := Lib.hid (by
          intro j u hu
          match j, hu with
          | 0, hu => simp [cellsT] at hu; subst hu; simp [nm])
        have HB2 := Lib.hid (HSB.out.trans (hb2.mono HSB.out.size))
        have HZ2 : Hid (w.heap.size ≤ (w2.alloc (.cells #[.string ⟨#[87, 82, 65, 80, 80, 69, 82]⟩] 9)).heap.size) := Lib.hid (by have := HB2.out.size; simp; omega)
        clear hown hb2
        go_wp2_with ((at_builtin; (refine wpList_app1 _ rfl len_cellsT one_cellsT (by decide) 16 _ rfl (by decide) (.tmp 21) (.tmp 23) 33 9 rfl Tryd.underlying33 info9 w.heap.size u4 F rfl HO2.out w2.heap.size 1 (nm 5) rfl HN.out HFL.out HZ2.out ?_); intro v3 w3 h3 g3 o3 n3))
        have FS : Hid (SpS a0 (a - 32) (F ++ [nm 5]) w v3 w3) := Lib.hid ⟨HP6.out, by rw [← HSE.out, HNB.out]; simp, h3, (HB2.out.alloc HB2.out.size _).grown g3 HZ2.out HO2.out.le⟩
        clear h3 g3 o3 n3
        exact ⟨⟨a - 32, F ++ [nm 5], rfl, rfl, FS.out⟩, by simp [intOf]; omega⟩
      · have HTZ := Lib.hid (tz_6 a wr HSG.out h0' hi hT2)
        have hx : bits .xor .u16 (a : Int) 64 = ((a - 64 : Nat) : Int) := xor_low (i := 6) (P := 64) (p := 64) rfl rfl HSG.out h0' hi (by decide)
        rw [hi] at HNB HP6 p7
        have hPa : 64 ≤ a := p7
        clear hi hT2 p7
        go_wp2_with fail
        refine HTZ.out.mono ?_
        rintro e w1 ⟨rfl, rfl⟩
        go_wp2_with fail
        refine (attrname_any _).mono ?_
        rintro e w2 ⟨mb, rfl, hown, hb2⟩
        have hlk : (Instr.lookup 70 (.map (some mb)) (.int .u16 64) false).run Tryd.prog w2 = .ok (.string ⟨#[78, 69, 69, 68, 67, 84, 88, 84]⟩) w2 := look_any hown 64 (nm 6) (by decide) at_6
        have HO2 := Lib.hid ((HSO.out.below hb2).alloc (.cells #[.string ⟨#[78, 69, 69, 68, 67, 84, 88, 84]⟩] 9))
        have HN : Hid (∀ j u, (cellsT (nm 6))[j]? = some u → (w2.alloc (.cells #[.string ⟨#[78, 69, 69, 68, 67, 84, 88, 84]⟩] 9)).cell? ⟨w2.heap.size, j, none⟩ = some u) := Lib.hid (by
          intro j u hu
          match j, hu with
          | 0, hu => simp [cellsT] at hu; subst hu; simp [nm])
        have HB2 := Lib.hid (HSB.out.trans (hb2.mono HSB.out.size))
        have HZ2 : Hid (w.heap.size ≤ (w2.alloc (.cells #[.string ⟨#[78, 69, 69, 68, 67, 84, 88, 84]⟩] 9)).heap.size) := Lib.hid (by have := HB2.out.size; simp; omega)
        clear hown hb2
        go_wp2_with ((at_builtin; (refine wpList_app1 _ rfl len_cellsT one_cellsT (by decide) 16 _ rfl (by decide) (.tmp 21) (.tmp 23) 33 9 rfl Tryd.underlying33 info9 w.heap.size u4 F rfl HO2.out w2.heap.size 1 (nm 6) rfl HN.out HFL.out HZ2.out ?_); intro v3 w3 h3 g3 o3 n3))
        have FS : Hid (SpS a0 (a - 64) (F ++ [nm 6]) w v3 w3) := Lib.hid ⟨HP6.out, by rw [← HSE.out, HNB.out]; simp, h3, (HB2.out.alloc HB2.out.size _).grown g3 HZ2.out HO2.out.le⟩
        clear h3 g3 o3 n3
        exact ⟨⟨a - 64, F ++ [nm 6], rfl, rfl, FS.out⟩, by simp [intOf]; omega⟩
      · have HTZ := Lib.hid (tz_8 a wr HSG.out h0' hi hT2)
        have hx : bits .xor .u16 (a : Int) 256 = ((a - 256 : Nat) : Int) := xor_low (i := 8) (P := 256) (p := 256) rfl rfl HSG.out h0' hi (by decide)
        rw [hi] at HNB HP6 p7
        have hPa : 256 ≤ a := p7
        clear hi hT2 p7
        go_wp2_with fail
        refine HTZ.out.mono ?_
        rintro e w1 ⟨rfl, rfl⟩
        go_wp2_with fail
        refine (attrname_any _).mono ?_
        rintro e w2 ⟨mb, rfl, hown, hb2⟩
        have hlk : (Instr.lookup 70 (.map (some mb)) (.int .u16 256) false).run Tryd.prog w2 = .ok (.string ⟨#[84, 76, 83, 66, 83, 83]⟩) w2 := look_any hown 256 (nm 8) (by decide) at_8
        have HO2 := Lib.hid ((HSO.out.below hb2).alloc (.cells #[.string ⟨#[84, 76, 83, 66, 83, 83]⟩] 9))
        have HN : Hid (∀ j u, (cellsT (nm 8))[j]? = some u → (w2.alloc (.cells #[.string ⟨#[84, 76, 83, 66, 83, 83]⟩] 9)).cell? ⟨w2.heap.size, j, none⟩ = some u) := Lib.hid (by
          intro j u hu
          match j, hu with
          | 0, hu => simp [cellsT] at hu; subst hu; simp [nm])
        have HB2 := Lib.hid (HSB.out.trans (hb2.mono HSB.out.size))
        have HZ2 : Hid (w.heap.size ≤ (w2.alloc (.cells #[.string ⟨#[84, 76, 83, 66, 83, 83]⟩] 9)).heap.size) := Lib.hid (by have := HB2.out.size; simp; omega)
        clear hown hb2
        go_wp2_with ((at_builtin; (refine wpList_app1 _ rfl len_cellsT one_cellsT (by decide) 16 _ rfl (by decide) (.tmp 21) (.tmp 23) 33 9 rfl Tryd.underlying33 info9 w.heap.size u4 F rfl HO2.out w2.heap.size 1 (nm 8) rfl HN.out HFL.out HZ2.out ?_); intro v3 w3 h3 g3 o3 n3))
        have FS : Hid (SpS a0 (a - 256) (F ++ [nm 8]) w v3 w3) := Lib.hid ⟨HP6.out, by rw [← HSE.out, HNB.out]; simp, h3, (HB2.out.alloc HB2.out.size _).grown g3 HZ2.out HO2.out.le⟩
        clear h3 g3 o3 n3
        exact ⟨⟨a - 256, F ++ [nm 8], rfl, rfl, FS.out⟩, by simp [intOf]; omega⟩
      · have HTZ := Lib.hid (tz_9 a wr HSG.out h0' hi hT2)
        have hx : bits .xor .u16 (a : Int) 512 = ((a - 512 : Nat) : Int) := xor_low (i := 9) (P := 512) (p := 512) rfl rfl HSG.out h0' hi (by decide)
        rw [hi] at HNB HP6 p7
        have hPa : 512 ≤ a := p7
        clear hi hT2 p7
        go_wp2_with fail
        refine HTZ.out.mono ?_
        rintro e w1 ⟨rfl, rfl⟩
        go_wp2_with fail
        refine (attrname_any _).mono ?_
        rintro e w2 ⟨mb, rfl, hown, hb2⟩
        have hlk : (Instr.lookup 70 (.map (some mb)) (.int .u16 512) false).run Tryd.prog w2 = .ok (.string ⟨#[78, 79, 70, 82, 65, 77, 69]⟩) w2 := look_any hown 512 (nm 9) (by decide) at_9
        have HO2 := Lib.hid ((HSO.out.below hb2).alloc (.cells #[.string ⟨#[78, 79, 70, 82, 65, 77, 69]⟩] 9))
        have HN : Hid (∀ j u, (cellsT (nm 9))[j]? = some u → (w2.alloc (.cells #[.string ⟨#[78, 79, 70, 82, 65, 77, 69]⟩] 9)).cell? ⟨w2.heap.size, j, none⟩ = some u) := Lib.hid (by
          intro j u hu
          match j, hu with
          | 0, hu => simp [cellsT] at hu; subst hu; simp [nm])
        have HB2 := Lib.hid (HSB.out.trans (hb2.mono HSB.out.size))
        have HZ2 : Hid (w.heap.size ≤ (w2.alloc (.cells #[.string ⟨#[78, 79, 70, 82, 65, 77, 69]⟩] 9)).heap.size) := Lib.hid (by have := HB2.out.size; simp; omega)
        clear hown hb2
        go_wp2_with ((at_builtin; (refine wpList_app1 _ rfl len_cellsT one_cellsT (by decide) 16 _ rfl (by decide) (.tmp 21) (.tmp 23) 33 9 rfl Tryd.underlying33 info9 w.heap.size u4 F rfl HO2.out w2.heap.size 1 (nm 9) rfl HN.out HFL.out HZ2.out ?_); intro v3 w3 h3 g3 o3 n3))
        have FS : Hid (SpS a0 (a - 512) (F ++ [nm 9]) w v3 w3) := Lib.hid ⟨HP6.out, by rw [← HSE.out, HNB.out]; simp, h3, (HB2.out.alloc HB2.out.size _).grown g3 HZ2.out HO2.out.le⟩
        clear h3 g3 o3 n3
        exact ⟨⟨a - 512, F ++ [nm 9], rfl, rfl, FS.out⟩, by simp [intOf]; omega⟩
      · have HTZ := Lib.hid (tz_10 a wr HSG.out h0' hi hT2)
        have hx : bits .xor .u16 (a : Int) 1024 = ((a - 1024 : Nat) : Int) := xor_low (i := 10) (P := 1024) (p := 1024) rfl rfl HSG.out h0' hi (by decide)
        rw [hi] at HNB HP6 p7
        have hPa : 1024 ≤ a := p7
        clear hi hT2 p7
        go_wp2_with fail
        refine HTZ.out.mono ?_
        rintro e w1 ⟨rfl, rfl⟩
        go_wp2_with fail
        refine (attrname_any _).mono ?_
        rintro e w2 ⟨mb, rfl, hown, hb2⟩
        have hlk : (Instr.lookup 70 (.map (some mb)) (.int .u16 1024) false).run Tryd.prog w2 = .ok (.string ⟨#[82, 69, 70, 76, 69, 67, 84, 77, 69, 84, 72, 79, 68]⟩) w2 := look_any hown 1024 (nm 10) (by decide) at_10
        have HO2 := Lib.hid ((HSO.out.below hb2).alloc (.cells #[.string ⟨#[82, 69, 70, 76, 69, 67, 84, 77, 69, 84, 72, 79, 68]⟩] 9))
        have HN : Hid (∀ j u, (cellsT (nm 10))[j]? = some u → (w2.alloc (.cells #[.string ⟨#[82, 69, 70, 76, 69, 67, 84, 77, 69, 84, 72, 79, 68]⟩] 9)).cell? ⟨w2.heap.size, j, none⟩ = some u) := Lib.hid (by
          intro j u hu
          match j, hu with
          | 0, hu => simp [cellsT] at hu; subst hu; simp [nm])
        have HB2 := Lib.hid (HSB.out.trans (hb2.mono HSB.out.size))
        have HZ2 : Hid (w.heap.size ≤ (w2.alloc (.cells #[.string ⟨#[82, 69, 70, 76, 69, 67, 84, 77, 69, 84, 72, 79, 68]⟩] 9)).heap.size) := Lib.hid (by have := HB2.out.size; simp; omega)
        clear hown hb2
        go_wp2_with ((at_builtin; (refine wpList_app1 _ rfl len_cellsT one_cellsT (by decide) 16 _ rfl (by decide) (.tmp 21) (.tmp 23) 33 9 rfl Tryd.underlying33 info9 w.heap.size u4 F rfl HO2.out w2.heap.size 1 (nm 10) rfl HN.out HFL.out HZ2.out ?_); intro v3 w3 h3 g3 o3 n3))
        have FS : Hid (SpS a0 (a - 1024) (F ++ [nm 10]) w v3 w3) := Lib.hid ⟨HP6.out, by rw [← HSE.out, HNB.out]; simp, h3, (HB2.out.alloc HB2.out.size _).grown g3 HZ2.out HO2.out.le⟩
        clear h3 g3 o3 n3
        exact ⟨⟨a - 1024, F ++ [nm 10], rfl, rfl, FS.out⟩, by simp [intOf]; omega⟩
      · have HTZ := Lib.hid (tz_11 a wr HSG.out h0' hi hT2)
        have hx : bits .xor .u16 (a : Int) 2048 = ((a - 2048 : Nat) : Int) := xor_low (i := 11) (P := 2048) (p := 2048) rfl rfl HSG.out h0' hi (by decide)
        rw [hi] at HNB HP6 p7
        have hPa : 2048 ≤ a := p7
        clear hi hT2 p7
        go_wp2_with fail
        refine HTZ.out.mono ?_
        rintro e w1 ⟨rfl, rfl⟩
        go_wp2_with fail
        refine (attrname_any _).mono ?_
        rintro e w2 ⟨mb, rfl, hown, hb2⟩
        have hlk : (Instr.lookup 70 (.map (some mb)) (.int .u16 2048) false).run Tryd.prog w2 = .ok (.string ⟨#[84, 79, 80, 70, 82, 65, 77, 69]⟩) w2 := look_any hown 2048 (nm 11) (by decide) at_11
        have HO2 := Lib.hid ((HSO.out.below hb2).alloc (.cells #[.string ⟨#[84, 79, 80, 70, 82, 65, 77, 69]⟩] 9))
        have HN : Hid (∀ j u, (cellsT (nm 11))[j]? = some u → (w2.alloc (.cells #[.string ⟨#[84, 79, 80, 70, 82, 65, 77, 69]⟩] 9)).cell? ⟨w2.heap.size, j, none⟩ = some u) := Lib.hid (by
          intro j u hu
          match j, hu with
          | 0, hu => simp [cellsT] at hu; subst hu; simp [nm])
        have HB2 := Lib.hid (HSB.out.trans (hb2.mono HSB.out.size))
        have HZ2 : Hid (w.heap.size ≤ (w2.alloc (.cells #[.string ⟨#[84, 79, 80, 70, 82, 65, 77, 69]⟩] 9)).heap.size) := Lib.hid (by have := HB2.out.size; simp; omega)
        clear hown hb2
        go_wp2_with ((at_builtin; (refine wpList_app1 _ rfl len_cellsT one_cellsT (by decide) 16 _ rfl (by decide) (.tmp 21) (.tmp 23) 33 9 rfl Tryd.underlying33 info9 w.heap.size u4 F rfl HO2.out w2.heap.size 1 (nm 11) rfl HN.out HFL.out HZ2.out ?_); intro v3 w3 h3 g3 o3 n3))
        have FS : Hid (SpS a0 (a - 2048) (F ++ [nm 11]) w v3 w3) := Lib.hid ⟨HP6.out, by rw [← HSE.out, HNB.out]; simp, h3, (HB2.out.alloc HB2.out.size _).grown g3 HZ2.out HO2.out.le⟩
        clear h3 g3 o3 n3
        exact ⟨⟨a - 2048, F ++ [nm 11], rfl, rfl, FS.out⟩, by simp [intOf]; omega⟩

end Go.Proofs.YtjmmfhgdjndabaaRRDoor
