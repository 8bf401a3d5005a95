/- FnTagsAll's card: it returns true for every input: constraints' texts are read back, they read again as the same texts, and all of them tell of tags what their terms tell. Conditions: the library's tables lie as the program's text lays them (tied). -/
import Derived.Test.YtjmmfhgdjndabaaRRDoorRows
import Derived.Test.YtjmmfhgdjndabaaRRDoorTie
import Derived.Test.YtjmmfhgdjndabaaRRDoorCards
import Derived.Test.YtjmmfhgdjndabaaRRDoorTagN
import Derived.Test.YtjmmfhgdjndabaaRRDoorTagG
import Derived.WalkKit
import Derived.ProofKit
import Derived.OpenShut
import Derived.ChangeOld
import Derived.Below
import Derived.Lay
import Derived.SevenTiedAt
import Derived.Lib.LaidU8
import Derived.Deep.Matrix
namespace Go.Proofs.YtjmmfhgdjndabaaRRDoor.fnTagsAll
open Go.ChangeShapes Go.WideShapes Go.ChangeAt Go.RowKit Go.Lib
set_option linter.unusedVariables false

theorem own : ownKnob Tryd.prog.godebug = none := by kernel_rfl
theorem laidOut : laidOutB Tryd.prog = true := by kernel_rfl

theorem at_of {w : World} {a : Addr} {v : Value} (h : w.cell? (a.add 0) = some v) : a.spot = none ∧ a.block < w.heap.size := by
  obtain ⟨b, off, spot⟩ := a
  have h1 : spot = none := by simpa [Addr.add] using World.cell?_spot h
  subst h1
  have h2 := World.block_lt_of_cell? w _ h
  exact ⟨rfl, by simpa [Addr.add] using h2⟩

theorem inR_of {w : World} {A : Option Addr} {l c : Nat} {zs : List Int} (hl : l ≤ c) (hz : zs.length = c) (hw : ∀ n ∈ zs, (Lit.int .u8 n).wf = true) (hA : A = none → c = 0)
    (hc : ∀ a', A = some a' → ∀ i, i < c → w.cell? (a'.add i) = some (.int .u8 (zs.getD i 0))) : InR w A l c ((zs.take l).map Int.toNat) := by
  have hb : ∀ n ∈ zs, 0 ≤ n ∧ n < 256 := fun n hn => by
    have := hw n hn
    simp [Lit.wf, IntKind.min, IntKind.max, IntKind.bits, IntKind.signed] at this
    omega
  refine ⟨by simp; omega, fun z hz2 => ?_, hl, fun h0 => ?_⟩
  · obtain ⟨n, hn, rfl⟩ := List.mem_map.1 hz2
    have := hb n (List.mem_of_mem_take hn)
    omega
  · cases A with
    | none => have := hA rfl; omega
    | some a =>
      obtain ⟨h1, h2⟩ := at_of (hc a rfl 0 (by omega))
      obtain ⟨b, off, spot⟩ := a
      simp only at h1 h2
      subst h1
      refine ⟨b, off, rfl, h2, fun k z hk => ?_⟩
      rw [List.getElem?_map, List.getElem?_take] at hk
      split at hk
      · rename_i hkl
        have hkz : k < zs.length := by omega
        rw [List.getElem?_eq_getElem hkz] at hk
        simp at hk
        have := hc _ rfl k (by omega)
        rw [Addr.add_lit, List.getD_eq_getElem?_getD, List.getElem?_eq_getElem hkz, Option.getD_some] at this
        have hbz := hb zs[k] (List.getElem_mem hkz)
        rw [this, ← hk]
        congr 2
        omega
      · simp at hk

theorem walk (a0 : Option Addr) (len0 cap0 : Nat) (t : Nat) (ht : t < 256) (w : World) (hl : len0 ≤ cap0) (w0 : RowsR w a0 len0) (hT : TabP w) :
    Calls Tryd.prog 6 #[.slice a0 len0 cap0, .int .u8 (t : Int)] w fun e w' => e = .returned (.bool true) ∧ Below w.heap.size w w' := by
  by_cases h1 : 100 < len0 ∨ len0 = 0
  · exact fnTagsAll_out a0 len0 cap0 t w h1 w0
  · exact fnTagsAll_few a0 len0 cap0 t ht w (by omega) (by omega) hl w0 hT

set_option maxRecDepth 100000 in
theorem lifted (os : Os) (started : os.Started) (H : Type) (enc : TypeId × Value → H) :
    ReturnsInHanded {} Tryd.checked os 6 .any (fun w args => (Rows.fnTagsAllSpec.pre enc Tryd.prog Tryd.f6 [] false w args ∧ laidMetH Tryd.prog Rows.fnTagsAllRow.laid w) ∧ sizedMet enc Tryd.prog Tryd.f6 (OpenSpec.ofChange Rows.fnTagsAllSpec) false w args)
      (Rows.fnTagsAllSpec.post enc Tryd.prog Tryd.f6 false true false false) := by
  refine returnsInHanded_of_change_and (C := Tryd.checked) (X := fun w _ => laidMetH Tryd.prog Rows.fnTagsAllRow.laid w) (fun _ _ _ hh h => h.of_heap hh) own started (by kernel_rfl) Tryd.func6
    (ChangeSpec.witness_shaped (enc := enc) (C := Tryd.checked) (os := os) (X := fun w _ => laidMetH Tryd.prog Rows.fnTagsAllRow.laid w) false (World.laidAll Tryd.prog os Rows.fnTagsAllRow.laid) #[.slice none 0 0, .int .u8 0] 8 (World.laidAll_os _ _ _)
      (World.shaped_of_ZipB (by kernel_rfl) (by kernel_rfl)) (by kernel_rfl) (by kernel_rfl) (by kernel_rfl)
      (by rw [MakeChecks.laidMetH_plain _ _ _ (by kernel_rfl)]; exact laidMet_laidAll _ (by kernel_rfl) (by kernel_rfl))) ?_
  intro W base args ds gs before hval0 hW _ _ hL _
  have hval : ∀ (j : Nat) t v, Tryd.f6.params[j]? = some t → args[j]? = some v → Value.okWide Tryd.prog W .any base t v := hval0
  have hW' := hW
  obtain ⟨p, q, hA0, hV, rfl, _, _⟩ := hW
  have hA : DataW.TrodAll enc Tryd.prog W 0 (fun _ => true) true Tryd.f6.params.toList args.toList ds p := hA0
  rw [Tryd.params6] at hA hval
  obtain ⟨v0, vs0, d0, ds0, p0, q0, hargs, rfl, rfl, h0, r0⟩ := trodAll_cons hA
  obtain ⟨v1, vs1, d1, ds1, p1, q1, rfl, rfl, rfl, h1, r1⟩ := trodAll_cons r0
  obtain ⟨rfl, rfl, rfl⟩ := trodAll_nil r1
  obtain rfl : args = #[v0, v1] := by cases args; simp_all
  obtain ⟨rfl, rfl⟩ := trodVars_none hV
  obtain ⟨a0, len0, cap0, rfl⟩ := okWide_slice Tryd.underlying36 (hval 0 36 v0 rfl rfl)
  have k0 := h0
  have lt0 : ∀ x ∈ p0, x.block < W.heap.size := by obtain ⟨m, hm⟩ := k0; exact DataW.trod_lt m _ _ _ hm
  obtain ⟨hl0, w0⟩ : len0 ≤ cap0 ∧ RowsR W a0 len0 := by
    obtain ⟨fuel, hf⟩ := h0
    rcases Deep.open_int_rows Tryd.underlying36 Tryd.underlying22 Tryd.underlying5 (by kernel_rfl) (by kernel_rfl) hf with ⟨hcs, _⟩ | ⟨a, l, c, A, L, C, Z, hcs, _, hl, hm, _, hx⟩
    · simp [Value.cells] at hcs
      obtain ⟨rfl, rfl, rfl⟩ := hcs
      exact ⟨Nat.le_refl _, fun h => absurd h (by omega)⟩
    · simp [Value.cells] at hcs
      obtain ⟨rfl, rfl, rfl⟩ := hcs
      refine ⟨hl, fun h0 => ?_⟩
      obtain ⟨g1, g2⟩ := at_of (hx 0 (by omega)).1
      obtain ⟨b, off, spot⟩ := a
      simp only at g1 g2
      subst g1
      refine ⟨b, off, rfl, g2, fun k hk => ?_⟩
      obtain ⟨e1, e2, -, e4, e5, e6, e7⟩ := hx k (by omega)
      rw [Addr.add_lit] at e1
      exact ⟨A k, L k, C k, _, e1, inR_of e2 e4 e5 e6 (fun a' ha i hi => (e7 a' ha).2 i hi)⟩
  have h1' := h1
  obtain ⟨x, rfl, rfl, rfl, wx⟩ := open_int Tryd.underlying5 (hval 1 5 v1 rfl rfl) h1'
  have hx : 0 ≤ x ∧ x < 256 := by
    simp [Lit.wf, IntKind.min, IntKind.max, IntKind.signed, IntKind.bits] at wx
    omega
  obtain ⟨n, rfl⟩ := Int.eq_ofNat_of_zero_le hx.1
  have ht256 : n < 256 := by omega
  clear hA0 hval0
  rw [MakeChecks.laidMetH_plain _ _ _ (by kernel_rfl)] at hL
  have hT : TabP W := tabP_of_reads (Lib.laidMet.reads hL (.tail _ (.head _)))
  refine (walk a0 len0 cap0 n ht256 W hl0 w0 hT).mono fun e W' ⟨he, bel⟩ => ?_
  subst he
  exact ⟨_, rfl, _, _, _, [], _, [], hW', trodAll_mk1 (shut_bool Tryd.underlying4 _), (trodAll_cons_mk (Below.trod laidOut (by kernel_rfl) (of_decide_eq_true (by kernel_rfl)) k0 bel lt0) (trodAll_mk1 (shut_int Tryd.underlying5 wx))), rfl, bel.frame _, fun h => by cases h⟩

theorem over : Rows.FnTagsAllSaid :=
  OpenClaim.holds_of_wide 6 Tryd.f6 rfl rfl rfl rfl rfl rfl rfl ⟨rfl, rfl, rfl, rfl, rfl⟩ rfl rfl rfl rfl rfl (by kernel_rfl) Tryd.func6 (by kernel_rfl)
    (of_decide_eq_true (by kernel_rfl)) (by unfold Func.isWrapper; first | (rw [if_pos (by decide +kernel)]; kernel_rfl) | (rw [if_neg (by decide +kernel)]; exact ⟨rfl, rfl⟩))
    (fun os started H enc _ => lifted os started H enc)

/-- ████ THE CARD ████ -/
theorem proved : Rows.FnTagsAllCardSaid :=
  Claim7.holds_tied_plain_at .later [] [.listed, .data, .pinned, .pinned] true (true, "d52eb89007dc6fb6c2452bb0e6d44c73b621fdce75209b07b9af502bf0a383af") false over (fun _ h => by cases h) (by kernel_rfl) (fun _ h => by cases h) fnTagsAll_row_tie rfl ⟨rfl, rfl⟩ (by kernel_rfl) rfl
    (fun f fn hf hfn => by
      obtain rfl : f = 6 := Option.some.inj ((show Tryd.prog.funcNamed "loop.example/pub-g03449/laws.FnTagsAll" = some 6 by kernel_rfl).symm.trans hf) |>.symm
      obtain rfl : fn = Tryd.f6 := (Option.some.inj (Tryd.func6.symm.trans hfn)).symm
      exact ⟨by kernel_rfl, fun j t ht => by
        rw [Tryd.params6] at ht
        have hm : t ∈ [36, 5] := by simpa using Array.mem_of_getElem? ht
        have hall : ([36, 5].all fun u => !Tryd.prog.wantsStandIn u) = true := by kernel_rfl
        exact (show Tryd.prog.wantsStandIn t = false by simpa using List.all_eq_true.1 hall t hm)⟩)
    (by kernel_rfl)
#print axioms proved
end Go.Proofs.YtjmmfhgdjndabaaRRDoor.fnTagsAll
