/- FnTags' card: it returns true for every input: a constraint's text is read back, it reads again as the same text, and it tells of tags what its terms tell. Conditions: the library's tables lie as the program's text lays them (tied). -/
import Derived.Test.YtjmmfhgdjndabaaRRDoorRows
import Derived.Test.YtjmmfhgdjndabaaRRDoorTie
import Derived.Test.YtjmmfhgdjndabaaRRDoorCards
import Derived.Test.YtjmmfhgdjndabaaRRDoorTagL
import Derived.Test.YtjmmfhgdjndabaaRRDoorTagG
import Derived.WalkKit
import Derived.ProofKit
import Derived.OpenShut
import Derived.ChangeOld
import Derived.Below
import Derived.Lay
import Derived.SevenTiedAt
import Derived.Lib.LaidU8
namespace Go.Proofs.YtjmmfhgdjndabaaRRDoor.fnTags
open Go.ChangeShapes Go.WideShapes Go.ChangeAt Go.RowKit Go.Lib
set_option linter.unusedVariables false

theorem own : ownKnob Tryd.prog.godebug = none := by kernel_rfl
theorem laidOut : laidOutB Tryd.prog = true := by kernel_rfl

/-- What the walk is told of a slice of bytes that came in. -/
def IsRow (w : World) (a : Option Addr) (len cap : Nat) (zs : List Int) : Prop :=
  (a = none ∧ len = 0 ∧ cap = 0 ∧ zs = []) ∨
  ∃ x, a = some x ∧ len ≤ cap ∧ cap ≤ maxLen ∧ zs.length = cap ∧ (∀ i, i < zs.length → w.cell? (x.add i) = some (.int .u8 (zs.getD i 0))) ∧ ∀ n ∈ zs, (Lit.int .u8 n).wf = true

theorem walk (a0 : Option Addr) (len0 cap0 : Nat) (z0 : List Int) (t : Nat) (ht : t < 256) (w : World) (w0 : IsRow w a0 len0 cap0 z0) (hT : TabP w) :
    Calls Tryd.prog 5 #[.slice a0 len0 cap0, .int .u8 (t : Int)] w fun e w' => e = .returned (.bool true) ∧ Below w.heap.size w w' := by
  by_cases h1 : 100 < len0 ∨ len0 = 0
  · exact fnTags_out a0 len0 cap0 t w h1
  have q1 : len0 ≤ 100 := by omega
  have q2 : 0 < len0 := by omega
  rcases w0 with ⟨_, h3, _⟩ | ⟨x, rfl, hl, hm, hz, hc, hw⟩
  · omega
  have hb : ∀ n ∈ z0, 0 ≤ n ∧ n < 256 := fun n hn => by
    have := hw n hn
    simp [Lit.wf, IntKind.min, IntKind.max, IntKind.bits, IntKind.signed] at this
    omega
  obtain ⟨b, off, spot⟩ := x
  have h0 := hc 0 (by omega)
  have hspot : spot = none := by simpa [Addr.add] using World.cell?_spot h0
  subst hspot
  have hlt : b < w.heap.size := by
    have := World.block_lt_of_cell? w _ h0
    simpa [Addr.add] using this
  refine fnTags_few b off len0 cap0 ((z0.take len0).map Int.toNat) t ht w hlt (by simp; omega) q2 q1 hl (fun k z hk => ?_) (fun z hz => ?_) hT
  · rw [List.getElem?_map, List.getElem?_take] at hk
    split at hk
    · rename_i hkl
      have hkz : k < z0.length := by omega
      rw [List.getElem?_eq_getElem hkz] at hk
      simp at hk
      have := hc k hkz
      rw [Addr.add_lit, List.getD_eq_getElem?_getD, List.getElem?_eq_getElem hkz, Option.getD_some] at this
      have hbz := hb z0[k] (List.getElem_mem hkz)
      rw [this, ← hk]
      congr 2
      omega
    · simp at hk
  · obtain ⟨n, hn, rfl⟩ := List.mem_map.1 hz
    have := hb n (List.mem_of_mem_take hn)
    omega

set_option maxRecDepth 100000 in
theorem lifted (os : Os) (started : os.Started) (H : Type) (enc : TypeId × Value → H) :
    ReturnsInHanded {} Tryd.checked os 5 .any (fun w args => (Rows.fnTagsSpec.pre enc Tryd.prog Tryd.f5 [] false w args ∧ laidMetH Tryd.prog Rows.fnTagsRow.laid w) ∧ sizedMet enc Tryd.prog Tryd.f5 (OpenSpec.ofChange Rows.fnTagsSpec) false w args)
      (Rows.fnTagsSpec.post enc Tryd.prog Tryd.f5 false true false false) := by
  refine returnsInHanded_of_change_and (C := Tryd.checked) (X := fun w _ => laidMetH Tryd.prog Rows.fnTagsRow.laid w) (fun _ _ _ hh h => h.of_heap hh) own started (by kernel_rfl) Tryd.func5
    (ChangeSpec.witness_shaped (enc := enc) (C := Tryd.checked) (os := os) (X := fun w _ => laidMetH Tryd.prog Rows.fnTagsRow.laid w) false (World.laidAll Tryd.prog os Rows.fnTagsRow.laid) #[.slice none 0 0, .int .u8 0] 8 (World.laidAll_os _ _ _)
      (World.shaped_of_ZipB (by kernel_rfl) (by kernel_rfl)) (by kernel_rfl) (by kernel_rfl) (by kernel_rfl)
      (by rw [MakeChecks.laidMetH_plain _ _ _ (by kernel_rfl)]; exact laidMet_laidAll _ (by kernel_rfl) (by kernel_rfl))) ?_
  intro W base args ds gs before hval0 hW _ _ hL _
  have hval : ∀ (j : Nat) t v, Tryd.f5.params[j]? = some t → args[j]? = some v → Value.okWide Tryd.prog W .any base t v := hval0
  have hW' := hW
  obtain ⟨p, q, hA0, hV, rfl, _, _⟩ := hW
  have hA : DataW.TrodAll enc Tryd.prog W 0 (fun _ => true) true Tryd.f5.params.toList args.toList ds p := hA0
  rw [Tryd.params5] at hA hval
  obtain ⟨v0, vs0, d0, ds0, p0, q0, hargs, rfl, rfl, h0, r0⟩ := trodAll_cons hA
  obtain ⟨v1, vs1, d1, ds1, p1, q1, rfl, rfl, rfl, h1, r1⟩ := trodAll_cons r0
  obtain ⟨rfl, rfl, rfl⟩ := trodAll_nil r1
  obtain rfl : args = #[v0, v1] := by cases args; simp_all
  obtain ⟨rfl, rfl⟩ := trodVars_none hV
  obtain ⟨a0, len0, cap0, rfl⟩ := okWide_slice Tryd.underlying22 (hval 0 22 v0 rfl rfl)
  have k0 := h0
  have lt0 : ∀ x ∈ p0, x.block < W.heap.size := by obtain ⟨m, hm⟩ := k0; exact DataW.trod_lt m _ _ _ hm
  obtain ⟨z0, w0⟩ : ∃ zs, IsRow W a0 len0 cap0 zs := by
    obtain ⟨fuel, hf⟩ := h0
    rcases open_ints Tryd.underlying22 Tryd.underlying5 (by kernel_rfl) hf with ⟨hcs, _⟩ | ⟨x, l, c, zs, hcs, _, hl, hm, hz, _, hcell, hwz⟩
    · simp [Value.cells] at hcs
      obtain ⟨rfl, rfl, rfl⟩ := hcs
      exact ⟨[], .inl ⟨rfl, rfl, rfl, rfl⟩⟩
    · simp [Value.cells] at hcs
      obtain ⟨rfl, rfl, rfl⟩ := hcs
      exact ⟨zs, .inr ⟨_, rfl, hl, hm, by simpa using hz, hcell, hwz⟩⟩
  have h1' := h1
  obtain ⟨x, rfl, rfl, rfl, wx⟩ := open_int Tryd.underlying5 (hval 1 5 v1 rfl rfl) h1'
  have hx : 0 ≤ x ∧ x < 256 := by
    simp [Lit.wf, IntKind.min, IntKind.max, IntKind.signed, IntKind.bits] at wx
    omega
  obtain ⟨n, rfl⟩ := Int.eq_ofNat_of_zero_le hx.1
  have ht256 : n < 256 := by omega
  clear hA0 hval0
  rw [MakeChecks.laidMetH_plain _ _ _ (by kernel_rfl)] at hL
  have hT : TabP W := tabP_of_reads (Lib.laidMet.reads hL (.tail _ (.head _)))
  refine (walk a0 len0 cap0 z0 n ht256 W w0 hT).mono fun e W' ⟨he, bel⟩ => ?_
  subst he
  exact ⟨_, rfl, _, _, _, [], _, [], hW', trodAll_mk1 (shut_bool Tryd.underlying4 _), (trodAll_cons_mk (Below.trod laidOut (by kernel_rfl) (of_decide_eq_true (by kernel_rfl)) k0 bel lt0) (trodAll_mk1 (shut_int Tryd.underlying5 wx))), rfl, bel.frame _, fun h => by cases h⟩

theorem over : Rows.FnTagsSaid :=
  OpenClaim.holds_of_wide 5 Tryd.f5 rfl rfl rfl rfl rfl rfl rfl ⟨rfl, rfl, rfl, rfl, rfl⟩ rfl rfl rfl rfl rfl (by kernel_rfl) Tryd.func5 (by kernel_rfl)
    (of_decide_eq_true (by kernel_rfl)) (by unfold Func.isWrapper; first | (rw [if_pos (by decide +kernel)]; kernel_rfl) | (rw [if_neg (by decide +kernel)]; exact ⟨rfl, rfl⟩))
    (fun os started H enc _ => lifted os started H enc)

/-- ████ THE CARD ████ -/
theorem proved : Rows.FnTagsCardSaid :=
  Claim7.holds_tied_plain_at .later [] [.listed, .data, .pinned, .pinned] true (true, "d52eb89007dc6fb6c2452bb0e6d44c73b621fdce75209b07b9af502bf0a383af") false over (fun _ h => by cases h) (by kernel_rfl) (fun _ h => by cases h) fnTags_row_tie rfl ⟨rfl, rfl⟩ (by kernel_rfl) rfl
    (fun f fn hf hfn => by
      obtain rfl : f = 5 := Option.some.inj ((show Tryd.prog.funcNamed "loop.example/pub-g03449/laws.FnTags" = some 5 by kernel_rfl).symm.trans hf) |>.symm
      obtain rfl : fn = Tryd.f5 := (Option.some.inj (Tryd.func5.symm.trans hfn)).symm
      exact ⟨by kernel_rfl, fun j t ht => by
        rw [Tryd.params5] at ht
        have hm : t ∈ [22, 5] := by simpa using Array.mem_of_getElem? ht
        have hall : ([22, 5].all fun u => !Tryd.prog.wantsStandIn u) = true := by kernel_rfl
        exact (show Tryd.prog.wantsStandIn t = false by simpa using List.all_eq_true.1 hall t hm)⟩)
    (by kernel_rfl)
#print axioms proved
end Go.Proofs.YtjmmfhgdjndabaaRRDoor.fnTags
