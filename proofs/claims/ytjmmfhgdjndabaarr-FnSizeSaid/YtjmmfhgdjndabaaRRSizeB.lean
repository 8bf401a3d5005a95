/- FnSize's callees on a section of data: a new one, growing, one datum added. Conditions: bounds as stated. -/
import Derived.Test.YtjmmfhgdjndabaaRRSizeA
import Derived.Test.YtjmmfhgdjndabaaRRRows2
import Derived.Deep.RegionLaw
import Derived.OwnWalk
namespace Go.Proofs.YtjmmfhgdjndabaaRR
open Go.RowKit

theorem gset (w : World) (b i : Nat) (v : Value) : w.grownBy (w.setCell ⟨b, i, none⟩ v) (some b) :=
  ⟨rfl, rfl, rfl, by simp [World.setCell], fun k _ hk => Below.heap_setCell _ _ _ _ (fun e => hk (by rw [e]))⟩

theorem newGlobal_any (s : ByteArray) (b : Bool) (w : World) :
    Calls Try.prog 7 #[.agg #[.string s, .bool b]] w fun e w' => e = .returned (.pointer (some ⟨w.heap.size + 1, 0, none⟩)) ∧
      (w.alloc (.cells #[.string s, .bool b] 39)).alloc (.cells #[.string s, .bool b, .int .u16 0, .slice none 0 0, .int .i64 0] 44) = w' := by
  go_enter Try.func7, Try.ntmps7
  go_wp2
  go_ret
  exact ⟨by simp, rfl⟩

theorem grow_more (G : Nat) (m n : Int) (w : World) (h4 : w.cell? ⟨G, 4, none⟩ = some (.int .i64 m)) (hf : w.frozen? ⟨G, 4, none⟩ = false) (hd : decide (m < n) = true) :
    Calls Try.prog 18 #[.pointer (some ⟨G, 0, none⟩), .int .i64 n] w fun e w' => e = .returned (.tuple #[]) ∧ w.setCell ⟨G, 4, none⟩ (.int .i64 n) = w' := by
  go_enter Try.func18, Try.ntmps18
  go_wp2
  exact bodyPost_end (v := .tuple #[]) (by simp [results, Try.results18, go_sem]) rfl ⟨rfl, rfl⟩

theorem grow_less (G : Nat) (m n : Int) (w : World) (h4 : w.cell? ⟨G, 4, none⟩ = some (.int .i64 m)) (hd : decide (m < n) = false) :
    Calls Try.prog 18 #[.pointer (some ⟨G, 0, none⟩), .int .i64 n] w fun e w' => e = .returned (.tuple #[]) ∧ w = w' := by
  go_enter Try.func18, Try.ntmps18
  go_wp2
  exact bodyPost_end (v := .tuple #[]) (by simp [results, Try.results18, go_sem]) rfl ⟨rfl, rfl⟩

/-- What growing does: the size alone may turn. -/
structure GrowP (G : Nat) (M : Int) (w w' : World) : Prop where
  by_ : w.grownBy w' (some G)
  c3 : w'.cell? ⟨G, 3, none⟩ = w.cell? ⟨G, 3, none⟩
  c4 : w'.cell? ⟨G, 4, none⟩ = some (.int .i64 M)
  fz : ∀ i, w'.frozen? ⟨G, i, none⟩ = w.frozen? ⟨G, i, none⟩

theorem grow_any (G : Nat) (m n M : Int) (w : World) (h4 : w.cell? ⟨G, 4, none⟩ = some (.int .i64 m)) (hf : w.frozen? ⟨G, 4, none⟩ = false) (hM : M = if m < n then n else m) :
    Calls Try.prog 18 #[.pointer (some ⟨G, 0, none⟩), .int .i64 n] w fun e w' => e = .returned (.tuple #[]) ∧ GrowP G M w w' := by
  by_cases h : m < n
  · rw [if_pos h] at hM
    subst hM
    refine (grow_more G m M w h4 hf (by simp [h])).mono ?_
    rintro e w' ⟨rfl, rfl⟩
    refine ⟨rfl, ⟨gset _ _ _ _, ?_, ?_, fun i => World.frozen?_setCell _ _ _ _⟩⟩
    · exact World.cell?_setCell_other _ _ _ _ (by simp)
    · exact World.cell?_setCell_same _ _ _ h4
  · rw [if_neg h] at hM
    subst hM
    refine (grow_less G M n w h4 (by simp; omega)).mono ?_
    rintro e w' ⟨rfl, rfl⟩
    exact ⟨rfl, ⟨World.grownBy.refl _ _, rfl, h4, fun i => rfl⟩⟩

/-- The cells of a datum (place, kind, bits). -/
def cellsD (d : Nat × Nat × Nat) : List Value := [.int .i64 (d.1 : Int), cv d.2.1 (d.2.2 : Int)]
theorem len_cellsD (d : Nat × Nat × Nat) : (cellsD d).length = 2 := rfl
theorem one_cellsD (d : Nat × Nat × Nat) : ∀ u ∈ cellsD d, u.oneCell' = true := by
  intro u hu
  simp [cellsD, cv] at hu
  rcases hu with rfl | rfl <;> rfl
theorem info54 : (Try.prog.info? 54).map (fun i => (i.zero, i.size, i.bytes)) = some (some (.agg #[.int .i64 0, .nilIface]), 2, 24) := by kernel_rfl

/-- A section of data at block G: its data v, its size m. -/
structure IsG (G : Nat) (w : World) (v : Value) (m : Int) : Prop where
  c3 : w.cell? ⟨G, 3, none⟩ = some v
  c4 : w.cell? ⟨G, 4, none⟩ = some (.int .i64 m)
  f3 : w.frozen? ⟨G, 3, none⟩ = false
  f4 : w.frozen? ⟨G, 4, none⟩ = false
  ne : v.ownBlock ≠ some G
  lt : G < w.heap.size

theorem OwnR.drew {α : Type} {f : α → List Value} {s : Nat} {e : TypeId} {w : World} {base : Nat} {v : Value} {l : List α} (h : OwnR f s e w base v l) : OwnR f s e w.drew base v l := h

theorem OwnR.drew_ {α : Type} {f : α → List Value} {s : Nat} {e : TypeId} {w : World} {base : Nat} {v : Value} {l : List α} (h : OwnR f s e w.drew base v l) : OwnR f s e w base v l := h

/-- What an added datum leaves. -/
structure Added (G B : Nat) (w w' : World) (l : List (Nat × Nat × Nat)) (M : Int) : Prop where
  ex : ∃ v', IsG G w' v' M ∧ OwnR cellsD 2 54 w' B v' l
  bel : Below B w w'

theorem add_fin {G B : Nat} {v : Value} {M : Int} {l : List (Nat × Nat × Nat)} {x : Nat × Nat × Nat} {w w1 w2 : World} {cs : Array Value} {A : Option Addr} {k cc : Nat} (bel : Below B w w1) (hB : B ≤ G) (lt : G < w1.heap.size)
    (c3 : w1.cell? ⟨G, 3, none⟩ = some v) (c4 : w1.cell? ⟨G, 4, none⟩ = some (.int .i64 M)) (f3 : w1.frozen? ⟨G, 3, none⟩ = false) (f4 : w1.frozen? ⟨G, 4, none⟩ = false)
    (ne : v.ownBlock ≠ some G) (ov : ∀ q, v.ownBlock = some q → B ≤ q) (hg : (w1.alloc (.cells cs 54)).drew.grownBy w2 v.ownBlock) (h2 : OwnR cellsD 2 54 w2 B (.slice A k cc) (l ++ [x]))
    (ho : (Value.slice A k cc).ownBlock = v.ownBlock ∨ (Value.slice A k cc).ownBlock = some (w1.alloc (.cells cs 54)).drew.heap.size) :
    Added G B w (w2.setCell ⟨G, 3, none⟩ (.slice A k cc)) (l ++ [x]) M := by
  have hne : some G ≠ v.ownBlock := fun e => ne e.symm
  have lt' : G < (w1.alloc (.cells cs 54)).drew.heap.size := by simp; omega
  have d3 : w2.cell? ⟨G, 3, none⟩ = some v := hg.cell (a := ⟨G, 3, none⟩) ((World.cell?_alloc_lt w1 _ ⟨G, 3, none⟩ lt).trans c3) hne
  have d4 : w2.cell? ⟨G, 4, none⟩ = some (.int .i64 M) := hg.cell (a := ⟨G, 4, none⟩) ((World.cell?_alloc_lt w1 _ ⟨G, 4, none⟩ lt).trans c4) hne
  have e3 : w2.frozen? ⟨G, 3, none⟩ = false := (hg.frozen_far ⟨G, 3, none⟩ lt' hne).trans ((World.frozen?_alloc_old _ _ _ (by simp; omega)).trans f3)
  have e4 : w2.frozen? ⟨G, 4, none⟩ = false := (hg.frozen_far ⟨G, 4, none⟩ lt' hne).trans ((World.frozen?_alloc_old _ _ _ (by simp; omega)).trans f4)
  have nv : (Value.slice A k cc).ownBlock ≠ some G := by
    rcases ho with h | h
    · rw [h]; exact ne
    · rw [h]; simp; omega
  have hs := hg.size
  refine ⟨⟨.slice A k cc, ⟨?_, ?_, ?_, ?_, nv, ?_⟩, h2.kept (gset _ _ _ _) (.inr nv)⟩, ?_⟩
  · exact World.cell?_setCell_same _ _ _ d3
  · exact (World.cell?_setCell_other _ _ _ _ (by simp)).trans d4
  · exact (World.frozen?_setCell _ _ _ _).trans e3
  · exact (World.frozen?_setCell _ _ _ _).trans e4
  · simp [World.setCell]; simp at hs; omega
  · have hb1 : B ≤ w1.heap.size := by omega
    exact (((bel.alloc hb1 _).drew).grown hg (by simp; omega) ov).setCell hB _

set_option maxRecDepth 100000 in
theorem add_any (G B : Nat) (v : Value) (m : Int) (l : List (Nat × Nat × Nat)) (p kind b : Nat) (hk : kind < 8) (hp : p ≤ 1000) (w : World) (hG : IsG G w v m) (ho : OwnR cellsD 2 54 w B v l) (hB : B ≤ G) (hl : l.length < 4294967296)
    (n M : Int) (hn : Hid (n = (p : Int) + (sz kind : Nat))) (hM : Hid (M = if m < n then n else m)) :
    Calls Try.prog 14 #[.pointer (some ⟨G, 0, none⟩), .agg #[.int .i64 (p : Int), cv kind b]] w fun e w' => e = .returned (.tuple #[]) ∧ Added G B w w' (l ++ [(p, kind, b)]) M := by
  have H1 := Lib.hid (fun W => interval_any kind hk p b W (by omega) (by omega))
  rw [← hn.out] at H1
  obtain ⟨c3, c4, f3, f4, ne, lt⟩ := hG
  obtain ⟨c, hc⟩ : ∃ c, cv kind b = c := ⟨_, rfl⟩
  have HC : Hid (cv kind b = c) := Lib.hid hc
  rw [hc] at H1 ⊢
  clear hc
  go_enter Try.func14, Try.ntmps14
  go_wp2_with fail
  refine (H1.out _).mono ?_
  rintro e w1 ⟨rfl, hg1⟩
  have k0 := (hg1.cell (p := ⟨w.heap.size, 0, none⟩) (by simp)).trans (show _ = some (Value.int .i64 (p : Int)) by simp)
  have k1 := (hg1.cell (p := ⟨w.heap.size, 1, none⟩) (by simp)).trans (show _ = some c by simp)
  have g1 : Below w.heap.size w w1 := ((Below.refl _ _).alloc (Nat.le_refl _) _).trans (hg1.mono (by simp))
  have c3' := (g1.cell (p := ⟨G, 3, none⟩) lt).trans c3
  have c4' := (g1.cell (p := ⟨G, 4, none⟩) lt).trans c4
  have f3' := (g1.frozen (p := ⟨G, 3, none⟩) lt).trans f3
  have f4' := (g1.frozen (p := ⟨G, 4, none⟩) lt).trans f4
  have hs1 := g1.size
  have ho1 := ho.below g1
  have bel1 : Below B w w1 := g1.mono (by omega)
  clear hg1 c3 c4 f3 f4 g1 ho
  go_wp2_with fail
  refine (grow_any G m n M _ c4' f4' hM.out).mono ?_
  rintro e w2 ⟨rfl, gr⟩
  have hnG : w.heap.size ≠ G := by omega
  have k0' := gr.by_.cell (a := ⟨w.heap.size, 0, none⟩) k0 (fun e => hnG (by simpa using e))
  have k1' := gr.by_.cell (a := ⟨w.heap.size, 1, none⟩) k1 (fun e => hnG (by simpa using e))
  have c3'' := gr.c3.trans c3'
  have HC4 := Lib.hid gr.c4
  have f3'' := (gr.fz 3).trans f3'
  have HF4 := Lib.hid ((gr.fz 4).trans f4')
  have hs2 := gr.by_.size
  have ho2 := ho1.kept gr.by_ (.inr ne)
  have BEL := Lib.hid (bel1.grown gr.by_ (by omega) (fun q hq => by cases hq; exact hB))
  have OV := Lib.hid ho2.le
  clear k0 k1 c3' c4' f3' f4' ho1 bel1 gr
  have HO := Lib.hid ((ho2.drew).alloc (.cells #[.int .i64 (p : Int), c] 54))
  have HN : Hid (∀ j u, (cellsD (p, kind, b))[j]? = some u → (w2.drew.alloc (.cells #[.int .i64 (p : Int), c] 54)).cell? ⟨w2.heap.size, j, none⟩ = some u) := Lib.hid (by
    intro j u hj
    have := HC.out
    subst this
    match j, hj with
    | 0, hj =>
      simp [cellsD] at hj
      subst hj
      exact (show (w2.alloc _).cell? ⟨w2.heap.size, 0, none⟩ = _ by simp)
    | 1, hj =>
      simp [cellsD] at hj
      subst hj
      exact (show (w2.alloc _).cell? ⟨w2.heap.size, 1, none⟩ = _ by simp))
  have HB : Hid (B ≤ (w2.drew.alloc (.cells #[.int .i64 (p : Int), c] 54)).heap.size) := Lib.hid (by simp; omega)
  have lt1 : G < w2.heap.size := by omega
  have HNE := Lib.hid (show some G ≠ v.ownBlock from fun e => ne e.symm)
  have HLT : Hid (G < (w2.drew.alloc (.cells #[.int .i64 (p : Int), c] 54)).heap.size) := Lib.hid (by simp; omega)
  have HF3 : Hid ((w2.drew.alloc (.cells #[.int .i64 (p : Int), c] 54)).frozen? ⟨G, 3, none⟩ = false) := Lib.hid ((World.frozen?_alloc_old _ _ _ (by simp; omega)).trans f3'')
  have HC3 := Lib.hid c3''
  have HF3' := Lib.hid f3''
  clear ne ho2
  go_wp2_with fail
  go_region_law ((refine step_app1 _ rfl len_cellsD one_cellsD (by decide) 24 _ rfl (by decide) (.tmp 18) (.tmp 20) 42 54 rfl Try.underlying42 info54 B v l rfl HO.out w2.heap.size 1 (p, kind, b) rfl HN.out hl HB.out ?_; intro v' w3 h2 hg2 ho2 _; obtain ⟨A', cc', rfl, r'⟩ := OwnR.form len_cellsD h2; have f3a := (hg2.frozen_far ⟨G, 3, none⟩ HLT.out HNE.out).trans HF3.out; have c3a := hg2.cell (a := ⟨G, 3, none⟩) ((World.cell?_alloc_lt w2.drew _ ⟨G, 3, none⟩ lt1).trans c3'') HNE.out))
  all_goals (
    rw [List.length_append, List.length_singleton] at h2 ho2
    exact bodyPost_end (v := .tuple #[]) (by simp [results, Try.results14, go_sem]) rfl ⟨rfl, add_fin BEL.out hB lt1 HC3.out HC4.out HF3'.out HF4.out (fun e => HNE.out e.symm) OV.out hg2 h2 ho2⟩)

end Go.Proofs.YtjmmfhgdjndabaaRR
