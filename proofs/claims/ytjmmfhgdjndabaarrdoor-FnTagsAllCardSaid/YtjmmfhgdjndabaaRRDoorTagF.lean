/- Walk of a text's parts between blanks. Conditions: at most two hundred plain signs. -/
import Derived.Test.YtjmmfhgdjndabaaRRDoorTagO
import Derived.Lib.OthersKept
import Derived.Laws.Runes
import Derived.WalkSmall
namespace Go.Proofs.YtjmmfhgdjndabaaRRDoor
open Go.RowKit Go.Maps

theorem field_bound : ∀ (x : List UInt8) (st : List (List UInt8) × List UInt8), (x.foldl fieldStep st).2.length ≤ st.2.length + x.length ∧ (x.foldl fieldStep st).1.length ≤ st.1.length + x.length
  | [], st => by simp
  | b :: r, st => by
    rw [List.foldl_cons]
    have h1 := field_bound r (fieldStep st b)
    have h2 : (fieldStep st b).2.length ≤ st.2.length + 1 ∧ (fieldStep st b).1.length ≤ st.1.length + 1 := by
      unfold fieldStep
      split
      · split <;> simp
      · simp
    simp
    omega

theorem encode_all : ∀ n : Nat, n < 128 → (Utf8.encode (n : Int)).data.toList = [UInt8.ofNat n] := by decide +kernel
theorem encode_byte (b : UInt8) (h : b.toNat < 128) : Utf8.encode ((b.toNat : Nat) : Int) = ⟨#[b]⟩ := by
  apply ByteArray.ext
  apply Array.ext'
  rw [encode_all b.toNat h]
  simp
theorem space_iff (b : UInt8) (h0 : 32 ≤ b.toNat) (h : b.toNat < 128) : Lib.isSpaceL ((b.toNat : Nat) : Int) = decide (b = 32) := by
  unfold Lib.isSpaceL
  have e : (b = 32) ↔ b.toNat = 32 := by rw [← UInt8.toNat_inj]; rfl
  rw [decide_eq_decide, e]
  omega

/-- What holds at a round's head of zzFields. -/
structure FldS (s : List UInt8) (N : ByteArray) (w : World) (pos : Nat) (v : Value) (y : List UInt8) (wr : World) : Prop where
  own : ∃ out, OwnR cellsU 1 9 wr w.heap.size v out ∧ (s.take pos).foldl fieldStep ([], []) = (out, y) ∧ out.length ≤ 200
  it : wr.heap[w.heap.size]? = some (.stringIter N pos)
  bel : Below w.heap.size w wr

theorem OwnR.iterAt {w : World} {base : Nat} {v : Value} {l : List (List UInt8)} (h : OwnR cellsU 1 9 w base v l) {k : Nat} {s : ByteArray} {pos : Nat} (hk : w.heap[k]? = some (.stringIter s pos)) (pos' : Nat) : OwnR cellsU 1 9 (w.iterAt k s pos') base v l := by
  obtain ⟨h1, ⟨h2, h2'⟩ | ⟨g, cap, cur, h2, hb, hg, rest⟩⟩ := h
  · exact ⟨h1, .inl ⟨h2, h2'⟩⟩
  · have hne : g ≠ k := by intro e; rw [e, hk] at hg; cases hg
    exact ⟨h1, .inr ⟨g, cap, cur, h2, hb, (Lib.iterAt_other w k g s pos' hne).trans hg, rest⟩⟩

theorem OwnR.ne_iter {w : World} {base : Nat} {v : Value} {l : List (List UInt8)} (h : OwnR cellsU 1 9 w base v l) {k : Nat} {s : ByteArray} {pos : Nat} (hk : w.heap[k]? = some (.stringIter s pos)) : some k ≠ v.ownBlock := by
  obtain ⟨h1, ⟨rfl, h2'⟩ | ⟨g, cap, cur, rfl, hb, hg, rest⟩⟩ := h
  · simp [Value.ownBlock]
  · simp only [Value.ownBlock, ne_eq, Option.some.injEq]
    intro e
    rw [← e, hk] at hg
    cases hg

set_option maxHeartbeats 1000000 in
set_option maxRecDepth 100000 in
theorem zzFields_any (s : List UInt8) (hs : ∀ b ∈ s, 32 ≤ b.toNat ∧ b.toNat < 128) (hl : s.length ≤ 200) (w : World) :
    Calls Tryd.prog 32 #[.string ⟨s.toArray⟩] w fun e w' => ∃ v, e = .returned v ∧ OwnR cellsU 1 9 w' w.heap.size v (fieldEnd (s.foldl fieldStep ([], []))) ∧ Below w.heap.size w w' := by
  have hsz : (⟨s.toArray⟩ : ByteArray).size = s.length := by simp [ByteArray.size]
  obtain ⟨N, hN⟩ : ∃ N : ByteArray, ⟨s.toArray⟩ = N := ⟨_, rfl⟩
  have HNN := Lib.hid hN
  have HS := Lib.hid hs
  rw [hN] at hsz ⊢
  have hN200 : N.size ≤ 200 := by omega
  have HSZ := Lib.hid hsz
  clear hN hsz hs
  have HA : Hid (FldS s N w 0 (.slice none 0 0) [] (w.iter N 0)) := Lib.hid ⟨⟨[], OwnR.nil _ _ _ _ _, rfl, by simp⟩, World.iter_heap w N 0, (Below.refl _ _).alloc (Nat.le_refl _) _⟩
  go_enter Tryd.func32, Tryd.ntmps32
  go_wp2_with fail
  go_loopw [3, 4] (fun v p wr => ∃ (pos : Nat) (y : List UInt8), pos ≤ N.size ∧ p = .string ⟨y.toArray⟩ ∧ FldS s N w pos v y wr) (fun _ _ wr => N.size - wr.iterPos w.heap.size)
  case atStart => exact ⟨0, [], Nat.zero_le _, rfl, HA.out⟩
  case round =>
    obtain ⟨pos, y, hpos, rfl, hst⟩ := hrel
    obtain ⟨⟨out, hown, hfold, hout⟩, hit, bel⟩ := hst
    clear HA
    have hmu : wr.iterPos w.heap.size = pos := iterPos_of hit
    have HMU := Lib.hid hmu
    by_cases hp : pos < N.size
    · obtain ⟨b, hb⟩ : ∃ b, s[pos]? = some b := ⟨s[pos]'(by rw [← HSZ.out]; exact hp), List.getElem?_eq_getElem _⟩
      have hbk := HS.out b (List.mem_of_getElem? hb)
      have hNb : (N[pos]'hp).toNat = b.toNat := by
        have h1 := HNN.out
        subst h1
        rw [List.getElem?_eq_some_iff] at hb
        obtain ⟨_, hb⟩ := hb
        rw [← hb]
        rfl
      have hnext0 := fun ty => Lib.run_next_ascii_at (P := Tryd.prog) wr w.heap.size N pos ty hit hp (by omega)
      rw [hNb] at hnext0
      have hit1 := Lib.iterAt_heap wr w.heap.size N pos (pos + 1) hit
      have hbel1 : Below w.heap.size w (wr.iterAt w.heap.size N (pos + 1)) := Lib.below_iterAt bel (Nat.le_refl _) N (pos + 1)
      have hown1 := hown.iterAt hit (pos + 1)
      obtain ⟨W1, hW1⟩ : ∃ W1, wr.iterAt w.heap.size N (pos + 1) = W1 := ⟨_, rfl⟩
      rw [hW1] at hnext0 hit1 hbel1 hown1
      have HSTEP : Hid ((s.take (pos + 1)).foldl fieldStep ([], []) = fieldStep (out, y) b) := Lib.hid (by rw [List.take_add_one, hb, List.foldl_append, hfold]; rfl)
      have hbd := field_bound (s.take (pos + 1)) ([], [])
      have hbd1 := field_bound (s.take pos) ([], [])
      rw [hfold] at hbd1
      have hyl : y.length ≤ 200 := by
        have := hbd1.1
        have := List.length_take_le pos s
        have := List.length_take_le' pos s
        simp at *
        omega
      have hol : (fieldStep (out, y) b).1.length ≤ 200 := by
        rw [← HSTEP.out]
        have := hbd.2
        have := List.length_take_le' (pos + 1) s
        simp at *
        omega
      have HOL := Lib.hid hol
      have HIT := Lib.hid hit1
      have HBEL := Lib.hid hbel1
      have HSP := Lib.hid (Tryd.unicode_IsSpace ((b.toNat : Nat) : Int) W1 (by omega) (by omega))
      rw [space_iff b hbk.1 hbk.2] at HSP
      have HE := Lib.hid (encode_byte b hbk.2)
      obtain ⟨x, hx⟩ : ∃ x : Nat, b.toNat = x := ⟨_, rfl⟩
      rw [hx] at hnext0 HSP HE
      have hnext : ∀ ty, (Instr.next (.pointer (some ⟨w.heap.size, 0, none⟩)) true ty).run Tryd.prog wr = .ok (.tuple #[.bool true, .int .i64 pos, .int .i32 (x : Int)]) W1 := hnext0
      have HOW := Lib.hid hown1
      clear hbd hbd1 hol hmu hNb hown hit bel hfold hb hit1 hbel1 hW1 hbk hnext0 hown1 hx
      by_cases h32 : b = 32
      · subst h32
        rw [show decide ((32 : UInt8) = 32) = true from rfl] at HSP
        by_cases hy : y = []
        · subst hy
          have HST2 : Hid (fieldStep (out, []) 32 = (out, [])) := Lib.hid rfl
          go_wp2_with fail
          refine HSP.out.mono ?_
          rintro e w2 ⟨rfl, rfl⟩
          go_wp2_with fail
          have hmu2 := iterPos_of HIT.out
          exact ⟨⟨pos + 1, [], by omega, rfl, ⟨⟨out, HOW.out, by rw [HSTEP.out, HST2.out], hout⟩, HIT.out, HBEL.out⟩⟩, by rw [HMU.out, hmu2]; omega⟩
        · have HST2 : Hid (fieldStep (out, y) 32 = (out ++ [y], [])) := Lib.hid (by unfold fieldStep; rw [if_pos rfl, if_neg hy])
          have hout2 : (out ++ [y]).length ≤ 200 := by have := HOL.out; rw [HST2.out] at this; exact this
          obtain ⟨Y, hY⟩ : ∃ Y : ByteArray, ⟨y.toArray⟩ = Y := ⟨_, rfl⟩
          have HYY := Lib.hid hY
          have hYt : (Y.toList == []) = false := by
            rw [← hY, Lib.toList_data]
            simpa using hy
          have HNEW : Hid (∀ j u, (cellsU y)[j]? = some u → (W1.alloc (.cells #[.string Y] 9)).cell? ⟨W1.heap.size, j, none⟩ = some u) := Lib.hid (by
            intro j u hu
            match j, hu with
            | 0, hu => simp [cellsU] at hu; subst hu; simp [HYY.out])
          have HL : Hid (out.length < 4294967296) := Lib.hid (by omega)
          have HZ : Hid (w.heap.size ≤ (W1.alloc (.cells #[.string Y] 9)).heap.size) := Lib.hid (by have := HBEL.out.size; simp; omega)
          have HW := Lib.hid (HOW.out.alloc (.cells #[.string Y] 9))
          rw [hY]
          clear hY hy
          go_wp2_with fail
          refine HSP.out.mono ?_
          rintro e w2 ⟨rfl, rfl⟩
          go_wp2_with ((at_builtin; (refine wpList_app1 _ rfl len_cellsU one_cellsU (by decide) 16 _ rfl (by decide) (.tmp 16) (.tmp 18) 33 9 rfl Tryd.underlying33 infoU9 w.heap.size u3 out rfl HW.out w2.heap.size 1 y rfl HNEW.out HL.out HZ.out ?_); intro v2 w3 h2 g2 o2 n2))
          have hlt : w.heap.size < w2.heap.size := (Array.getElem?_eq_some_iff.1 HIT.out).1
          have hit3 : w3.heap[w.heap.size]? = some (.stringIter N (pos + 1)) := by
            rw [g2.block w.heap.size (by simp; omega) (HOW.out.ne_iter HIT.out), ← HIT.out]
            exact Below.heap_alloc _ _ _ hlt
          have hmu2 := iterPos_of hit3
          have F := (HBEL.out.alloc HBEL.out.size _).grown g2 HZ.out HW.out.le
          exact ⟨⟨pos + 1, [], by omega, rfl, ⟨⟨out ++ [y], h2, by rw [HSTEP.out, HST2.out], hout2⟩, hit3, F⟩⟩, by rw [HMU.out, hmu2]; omega⟩
      · rw [show decide (b = 32) = false from decide_eq_false h32] at HSP
        have HST2 : Hid (fieldStep (out, y) b = (out, y ++ [b])) := Lib.hid (by unfold fieldStep; rw [if_neg h32])
        obtain ⟨Y, hY⟩ : ∃ Y : ByteArray, ⟨y.toArray⟩ = Y := ⟨_, rfl⟩
        have hcv : ∀ W, (convert 21 9 (.int .i32 (x : Int))).run Tryd.prog W = .ok (.string ⟨#[b]⟩) W := fun W => by
          rw [← HE.out]
          exact run_convert_int_string W 21 9 .i32 (x : Int) (by rw [Tryd.underlying21]; rfl) Tryd.underlying9
        have hadd : ∀ W, (Op.stringOp .add Y ⟨#[b]⟩).run Tryd.prog W = .ok (.string ⟨(y ++ [b]).toArray⟩) W := fun W => by
          have : (⟨(y ++ [b]).toArray⟩ : ByteArray) = Y ++ ⟨#[b]⟩ := by rw [← hY]; apply ByteArray.ext; simp
          rw [this]
          exact run_string_add_sum W Y _ (by rw [← hY]; simp [ByteArray.size]; omega)
        rw [hY]
        clear hY
        go_wp2_with fail
        refine HSP.out.mono ?_
        rintro e w2 ⟨rfl, rfl⟩
        go_wp2_with fail
        have hmu2 := iterPos_of HIT.out
        exact ⟨⟨pos + 1, y ++ [b], by omega, rfl, ⟨⟨out, HOW.out, by rw [HSTEP.out, HST2.out], hout⟩, HIT.out, HBEL.out⟩⟩, by rw [HMU.out, hmu2]; omega⟩
    · have hnext : ∀ ty, (Instr.next (.pointer (some ⟨w.heap.size, 0, none⟩)) true ty).run Tryd.prog wr = _ := fun ty => Lib.run_next_end_at wr w.heap.size N pos ty hit hp
      have hend : s.take pos = s := List.take_of_length_le (by rw [← HSZ.out]; omega)
      rw [hend] at hfold
      have HF := Lib.hid hfold
      have HB := Lib.hid bel
      have HOW := Lib.hid hown
      clear hfold bel hown hend hit hmu HMU
      by_cases hy : y = []
      · subst hy
        have HEND : Hid (fieldEnd (s.foldl fieldStep ([], [])) = out) := Lib.hid (by rw [HF.out]; rfl)
        go_wp2_with fail
        go_ret
        rw [HEND.out]
        exact ⟨_, rfl, HOW.out, HB.out⟩
      · have HEND : Hid (fieldEnd (s.foldl fieldStep ([], [])) = out ++ [y]) := Lib.hid (by rw [HF.out]; unfold fieldEnd; rw [if_neg hy])
        obtain ⟨Y, hY⟩ : ∃ Y : ByteArray, ⟨y.toArray⟩ = Y := ⟨_, rfl⟩
        have HYY := Lib.hid hY
        have hYt : (Y.toList == []) = false := by
          rw [← hY, Lib.toList_data]
          simpa using hy
        have HNEW : Hid (∀ j u, (cellsU y)[j]? = some u → (wr.alloc (.cells #[.string Y] 9)).cell? ⟨wr.heap.size, j, none⟩ = some u) := Lib.hid (by
          intro j u hu
          match j, hu with
          | 0, hu => simp [cellsU] at hu; subst hu; simp [HYY.out])
        have HL : Hid (out.length < 4294967296) := Lib.hid (by omega)
        have HZ : Hid (w.heap.size ≤ (wr.alloc (.cells #[.string Y] 9)).heap.size) := Lib.hid (by have := HB.out.size; simp; omega)
        have HW := Lib.hid (HOW.out.alloc (.cells #[.string Y] 9))
        rw [hY]
        clear hY hy
        go_wp2_with ((at_builtin; (refine wpList_app1 _ rfl len_cellsU one_cellsU (by decide) 16 _ rfl (by decide) (.tmp 26) (.tmp 28) 33 9 rfl Tryd.underlying33 infoU9 w.heap.size u3 out rfl HW.out wr.heap.size 1 y rfl HNEW.out HL.out HZ.out ?_); intro v2 w3 h2 g2 o2 n2))
        have F := (HB.out.alloc HB.out.size _).grown g2 HZ.out HW.out.le
        go_wp2
        go_ret
        rw [HEND.out]
        exact ⟨_, rfl, h2, F⟩

end Go.Proofs.YtjmmfhgdjndabaaRRDoor
