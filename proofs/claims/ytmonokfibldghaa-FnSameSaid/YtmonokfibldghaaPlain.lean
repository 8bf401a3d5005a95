/- Plain facts on sets of parts of registers, as lists of (number, parts), ascending by their numbers. Conditions: none (no Go here). -/
namespace Go.Proofs.Ytmonokfibldghaa.Pl

abbrev PL := List (Nat × Nat)

def getL (L : PL) (i : Nat) : Nat := match L.find? (fun p => p.1 == i) with | some p => p.2 | none => 0
def hasL (L : PL) (i : Nat) : Bool := L.any (fun p => p.1 == i)
def insL (x : Nat × Nat) : PL → PL
  | [] => [x]
  | y :: r => if x.1 < y.1 then x :: y :: r else y :: insL x r
def delL (L : PL) (i : Nat) : PL := L.filter fun p => !(p.1 == i)
def putL (L : PL) (i v : Nat) : PL := insL (i, v) (delL L i)
def Asc (L : PL) : Prop := L.Pairwise (fun p q => p.1 < q.1)
def NZ (L : PL) : Prop := ∀ p ∈ L, p.2 ≠ 0
def Bd (L : PL) : Prop := ∀ p ∈ L, p.1 < 4294967296 ∧ p.2 < 65536
def Ok (L : PL) : Prop := Asc L ∧ NZ L ∧ Bd L

theorem ok_nil : Ok [] := ⟨List.Pairwise.nil, by simp [NZ], by simp [Bd]⟩
theorem asc_nil : Asc [] := List.Pairwise.nil
theorem bd_nil : Bd [] := by simp [Bd]

theorem mem_insL (x p : Nat × Nat) : ∀ l : PL, p ∈ insL x l ↔ p = x ∨ p ∈ l
  | [] => by simp [insL]
  | y :: r => by
    unfold insL
    split
    · simp
    · simp [mem_insL x p r]
      constructor
      · rintro (h | h | h) <;> simp [h]
      · rintro (h | h | h) <;> simp [h]

theorem asc_insL (x : Nat × Nat) : ∀ l : PL, Asc l → (∀ p ∈ l, p.1 ≠ x.1) → Asc (insL x l)
  | [], _, _ => List.pairwise_singleton _ _
  | y :: r, h, hn => by
    unfold insL
    have hc := List.pairwise_cons.1 h
    split
    · rename_i hlt
      refine List.pairwise_cons.2 ⟨fun p hp => ?_, h⟩
      rcases List.mem_cons.1 hp with rfl | hp
      · exact hlt
      · have := hc.1 p hp; omega
    · rename_i hge
      refine List.pairwise_cons.2 ⟨fun p hp => ?_, asc_insL x r hc.2 fun p hp => hn p (List.mem_cons_of_mem _ hp)⟩
      rcases (mem_insL x p r).1 hp with rfl | hp
      · have := hn y (List.mem_cons_self ..); omega
      · exact hc.1 p hp

theorem mem_delL (L : PL) (i : Nat) (p : Nat × Nat) : p ∈ delL L i ↔ p ∈ L ∧ p.1 ≠ i := by simp [delL]
theorem asc_delL {L : PL} (h : Asc L) (i : Nat) : Asc (delL L i) := List.Pairwise.filter _ h
theorem mem_putL (L : PL) (i v : Nat) (p : Nat × Nat) : p ∈ putL L i v ↔ p = (i, v) ∨ (p ∈ L ∧ p.1 ≠ i) := by
  rw [putL, mem_insL, mem_delL]
theorem asc_putL {L : PL} (h : Asc L) (i v : Nat) : Asc (putL L i v) :=
  asc_insL _ _ (asc_delL h i) fun p hp => ((mem_delL L i p).1 hp).2

theorem get_of_mem {L : PL} (h : Asc L) {i v : Nat} (hm : (i, v) ∈ L) : getL L i = v := by
  induction L with
  | nil => cases hm
  | cons y r ih =>
    have hc := List.pairwise_cons.1 h
    rcases List.mem_cons.1 hm with e | hm'
    · subst e; simp [getL]
    · have h1 := hc.1 _ hm'
      have hne : (y.1 == i) = false := by simp at h1 ⊢; omega
      have := ih hc.2 hm'
      simp only [getL, List.find?_cons, hne] at this ⊢
      exact this
theorem has_of_mem {L : PL} {i v : Nat} (hm : (i, v) ∈ L) : hasL L i = true := by
  simp only [hasL, List.any_eq_true]; exact ⟨_, hm, by simp⟩
theorem mem_of_has {L : PL} {i : Nat} (h : hasL L i = true) : (i, getL L i) ∈ L := by
  induction L with
  | nil => simp [hasL] at h
  | cons y r ih =>
    by_cases e : y.1 = i
    · have : getL (y :: r) i = y.2 := by simp [getL, e]
      rw [this]; subst e; exact List.mem_cons_self ..
    · have e' : (y.1 == i) = false := by simpa using e
      have h' : hasL r i = true := by simpa [hasL, e] using h
      have : getL (y :: r) i = getL r i := by simp [getL, e']
      rw [this]; exact List.mem_cons_of_mem _ (ih h')
theorem get_of_not_has {L : PL} {i : Nat} (h : hasL L i = false) : getL L i = 0 := by
  have : L.find? (fun p => p.1 == i) = none := by
    rw [List.find?_eq_none]; intro p hp
    have := List.any_eq_false.1 h p hp
    simpa using this
  simp [getL, this]
theorem not_has_of {L : PL} {i : Nat} (h : ∀ p ∈ L, p.1 ≠ i) : hasL L i = false := by
  rw [hasL, List.any_eq_false]; intro p hp; simpa using h p hp

theorem has_put (L : PL) (i v j : Nat) : hasL (putL L i v) j = (decide (j = i) || hasL L j) := by
  rw [Bool.eq_iff_iff]
  simp only [hasL, List.any_eq_true, Bool.or_eq_true, decide_eq_true_eq, beq_iff_eq]
  constructor
  · rintro ⟨p, hp, rfl⟩
    rcases (mem_putL ..).1 hp with rfl | ⟨hp, _⟩
    · exact .inl rfl
    · exact .inr ⟨p, hp, rfl⟩
  · rintro (rfl | ⟨p, hp, rfl⟩)
    · exact ⟨(j, v), (mem_putL ..).2 (.inl rfl), rfl⟩
    · by_cases e : p.1 = i
      · exact ⟨(i, v), (mem_putL ..).2 (.inl rfl), e.symm⟩
      · exact ⟨p, (mem_putL ..).2 (.inr ⟨hp, e⟩), rfl⟩
theorem has_del (L : PL) (i j : Nat) : hasL (delL L i) j = (!decide (j = i) && hasL L j) := by
  rw [Bool.eq_iff_iff]
  simp only [hasL, List.any_eq_true, Bool.and_eq_true, Bool.not_eq_true', decide_eq_false_iff_not, beq_iff_eq]
  constructor
  · rintro ⟨p, hp, rfl⟩
    have := (mem_delL ..).1 hp
    exact ⟨this.2, p, this.1, rfl⟩
  · rintro ⟨hn, p, hp, rfl⟩
    exact ⟨p, (mem_delL ..).2 ⟨hp, hn⟩, rfl⟩
theorem get_put {L : PL} (h : Asc L) (i v j : Nat) : getL (putL L i v) j = if j = i then v else getL L j := by
  split
  · rename_i e; subst e
    exact get_of_mem (asc_putL h j v) ((mem_putL ..).2 (.inl rfl))
  · rename_i e
    cases hh : hasL L j with
    | true => exact get_of_mem (asc_putL h i v) ((mem_putL ..).2 (.inr ⟨mem_of_has hh, e⟩))
    | false => rw [get_of_not_has hh, get_of_not_has]; rw [has_put, hh]; simp [e]
theorem get_del {L : PL} (h : Asc L) (i j : Nat) : getL (delL L i) j = if j = i then 0 else getL L j := by
  split
  · rename_i e; subst e; exact get_of_not_has (by rw [has_del]; simp)
  · rename_i e
    cases hh : hasL L j with
    | true => exact get_of_mem (asc_delL h i) ((mem_delL ..).2 ⟨mem_of_has hh, e⟩)
    | false => rw [get_of_not_has hh, get_of_not_has]; rw [has_del, hh]; simp

theorem asc_ext : ∀ {a b : PL}, Asc a → Asc b → (∀ p, p ∈ a ↔ p ∈ b) → a = b
  | [], [], _, _, _ => rfl
  | [], y :: s, _, _, h => by have := (h y).2 (List.mem_cons_self ..); cases this
  | x :: r, [], _, _, h => by have := (h x).1 (List.mem_cons_self ..); cases this
  | x :: r, y :: s, ha, hb, h => by
    have ca := List.pairwise_cons.1 ha
    have cb := List.pairwise_cons.1 hb
    have e : x = y := by
      rcases List.mem_cons.1 ((h x).1 (List.mem_cons_self ..)) with e | h1
      · exact e
      · rcases List.mem_cons.1 ((h y).2 (List.mem_cons_self ..)) with e | h2
        · exact e.symm
        · have := ca.1 y h2; have := cb.1 x h1; omega
    subst e
    have : r = s := asc_ext ca.2 cb.2 fun p => by
      constructor
      · intro hp
        rcases List.mem_cons.1 ((h p).1 (List.mem_cons_of_mem _ hp)) with rfl | hs
        · have := ca.1 _ hp; omega
        · exact hs
      · intro hp
        rcases List.mem_cons.1 ((h p).2 (List.mem_cons_of_mem _ hp)) with rfl | hs
        · have := cb.1 _ hp; omega
        · exact hs
    rw [this]

theorem mem_iff {L : PL} (h : Asc L) (i v : Nat) : (i, v) ∈ L ↔ hasL L i = true ∧ getL L i = v :=
  ⟨fun hm => ⟨has_of_mem hm, get_of_mem h hm⟩, fun ⟨h1, h2⟩ => h2 ▸ mem_of_has h1⟩

theorem has_iff_get {L : PL} (hz : NZ L) (i : Nat) : hasL L i = true ↔ getL L i ≠ 0 := by
  constructor
  · intro hh; exact hz _ (mem_of_has hh)
  · intro hg
    cases hh : hasL L i with
    | true => rfl
    | false => exact absurd (get_of_not_has hh) hg

/-- Two sets that have the same parts of every register are one list. -/
theorem ok_ext {a b : PL} (ha : Ok a) (hb : Ok b) (h : ∀ i, getL a i = getL b i) : a = b := by
  refine asc_ext ha.1 hb.1 fun ⟨i, v⟩ => ?_
  rw [mem_iff ha.1, mem_iff hb.1, has_iff_get ha.2.1, has_iff_get hb.2.1, h]

theorem del_put {L : PL} (h : Asc L) (i v : Nat) : delL (putL L i v) i = delL L i := by
  refine asc_ext (asc_delL (asc_putL h i v) i) (asc_delL h i) fun p => ?_
  rw [mem_delL, mem_putL, mem_delL]
  constructor
  · rintro ⟨rfl | h1, h2⟩
    · exact absurd rfl h2
    · exact h1
  · rintro ⟨h1, h2⟩; exact ⟨.inr ⟨h1, h2⟩, h2⟩

theorem bd_put {L : PL} (h : Bd L) {i v : Nat} (hi : i < 4294967296) (hv : v < 65536) : Bd (putL L i v) := fun p hp => by
  rcases (mem_putL ..).1 hp with rfl | ⟨hp, _⟩
  · exact ⟨hi, hv⟩
  · exact h p hp
theorem bd_del {L : PL} (h : Bd L) (i : Nat) : Bd (delL L i) := fun p hp => h p ((mem_delL ..).1 hp).1
theorem nz_put {L : PL} (h : NZ L) {i v : Nat} (hv : v ≠ 0) : NZ (putL L i v) := fun p hp => by
  rcases (mem_putL ..).1 hp with rfl | ⟨hp, _⟩
  · exact hv
  · exact h p hp
theorem nz_del {L : PL} (h : NZ L) (i : Nat) : NZ (delL L i) := fun p hp => h p ((mem_delL ..).1 hp).1
theorem get_bd {L : PL} (h : Bd L) (i : Nat) : getL L i < 65536 := by
  cases hh : hasL L i with
  | true => exact (h _ (mem_of_has hh)).2
  | false => rw [get_of_not_has hh]; omega

/-! ### parts as bits -/
/-- The parts of a that are none of m. -/
def andn (a m : Nat) : Nat := a ^^^ (a &&& m)
theorem andn_bit (a m j : Nat) : (andn a m).testBit j = (a.testBit j && !m.testBit j) := by
  simp [andn, Nat.testBit_xor, Nat.testBit_and]
  cases a.testBit j <;> cases m.testBit j <;> rfl
theorem andn_zero_iff (a m : Nat) : andn a m = 0 ↔ m &&& a = a := by
  constructor
  · intro h
    refine Nat.eq_of_testBit_eq fun j => ?_
    have := andn_bit a m j
    rw [h] at this
    simp [Nat.testBit_and] at this ⊢
    cases h1 : a.testBit j <;> cases h2 : m.testBit j <;> simp_all
  · intro h
    refine Nat.eq_of_testBit_eq fun j => ?_
    rw [andn_bit, ← h]
    simp only [Nat.testBit_and, Nat.zero_testBit]
    cases m.testBit j <;> simp
theorem lt_of_and {a m n : Nat} (h : a < 2 ^ n) : a &&& m < 2 ^ n := Nat.lt_of_le_of_lt Nat.and_le_left h
theorem andn_lt {a : Nat} (m : Nat) (h : a < 65536) : andn a m < 65536 := by
  have h1 : a < 2 ^ 16 := h
  have : andn a m < 2 ^ 16 := Nat.xor_lt_two_pow h1 (lt_of_and h1)
  exact this
theorem or_lt16 {a b : Nat} (h : a < 65536) (h' : b < 65536) : a ||| b < 65536 := by
  have h1 : a < 2 ^ 16 := h
  have h2 : b < 2 ^ 16 := h'
  have : a ||| b < 2 ^ 16 := Nat.or_lt_two_pow h1 h2
  exact this
theorem or_of_and {a m : Nat} (h : a &&& m = m) : a ||| m = a := by
  refine Nat.eq_of_testBit_eq fun j => ?_
  rw [← h]
  simp [Nat.testBit_and, Nat.testBit_or]
  cases a.testBit j <;> simp
theorem or_zero {a m : Nat} (h : a ||| m = 0) : a = 0 ∧ m = 0 := Nat.or_eq_zero_iff.1 h
theorem andn_of_and {a m : Nat} (h : a &&& m = 0) : andn a m = a := by simp [andn, h]
theorem zero_andn (m : Nat) : andn 0 m = 0 := by simp [andn]

/-! ### adding, and sets of lists -/
def addL (L : PL) (i m : Nat) : PL := if getL L i &&& m = m then L else putL L i (getL L i ||| m)
theorem get_add {L : PL} (h : Asc L) (i m j : Nat) : getL (addL L i m) j = if j = i then getL L i ||| m else getL L j := by
  unfold addL
  split
  · rename_i e
    split
    · rename_i hj; subst hj; rw [or_of_and e]
    · rfl
  · exact get_put h ..
theorem ok_add {L : PL} (h : Ok L) {i m : Nat} (hi : i < 4294967296) (hm : m < 65536) : Ok (addL L i m) := by
  unfold addL
  split
  · exact h
  · rename_i e
    refine ⟨asc_putL h.1 .., nz_put h.2.1 fun hz => e ?_, bd_put h.2.2 hi (or_lt16 (get_bd h.2.2 i) hm)⟩
    rw [(or_zero hz).1, (or_zero hz).2]; rfl

def setL (l : PL) : PL := l.foldl (fun L p => addL L p.1 p.2) []
/-- The parts of a register in a list. -/
def hasm (l : PL) (i : Nat) : Nat := l.foldl (fun m p => if p.1 = i then m ||| p.2 else m) 0
theorem setL_snoc (l : PL) (p : Nat × Nat) : setL (l ++ [p]) = addL (setL l) p.1 p.2 := by simp [setL, List.foldl_append]
theorem hasm_snoc (l : PL) (p : Nat × Nat) (i : Nat) : hasm (l ++ [p]) i = if p.1 = i then hasm l i ||| p.2 else hasm l i := by simp [hasm, List.foldl_append]
theorem hasm_nil (i : Nat) : hasm [] i = 0 := rfl

theorem snoc_ind {α : Type} {P : List α → Prop} (h0 : P []) (h1 : ∀ l x, P l → P (l ++ [x])) (l : List α) : P l := by
  have : ∀ r : List α, P r.reverse := fun r => by
    induction r with
    | nil => exact h0
    | cons x r ih => rw [List.reverse_cons]; exact h1 _ _ ih
  simpa using this l.reverse

theorem ok_setL {l : PL} (hb : Bd l) : Ok (setL l) := by
  induction l using snoc_ind with
  | h0 => exact ok_nil
  | h1 l x ih =>
    rw [setL_snoc]
    have hx := hb x (by simp)
    exact ok_add (ih fun p hp => hb p (by simp [hp])) hx.1 hx.2
theorem get_setL {l : PL} (hb : Bd l) (i : Nat) : getL (setL l) i = hasm l i := by
  induction l using snoc_ind with
  | h0 => rfl
  | h1 l x ih =>
    have hb' : Bd l := fun p hp => hb p (by simp [hp])
    rw [setL_snoc, get_add (ok_setL hb').1, hasm_snoc, ih hb']
    by_cases e : i = x.1
    · subst e; rw [if_pos rfl, if_pos rfl, ih hb']
    · rw [if_neg e, if_neg (fun h => e h.symm)]

theorem hasm_append (a b : PL) (i : Nat) : hasm (a ++ b) i = hasm a i ||| hasm b i := by
  induction b using snoc_ind with
  | h0 => simp [hasm_nil]
  | h1 b x ih =>
    rw [← List.append_assoc, hasm_snoc, hasm_snoc, ih]
    split
    · rw [Nat.or_assoc]
    · rfl
theorem hasm_lt {l : PL} (hb : Bd l) (i : Nat) : hasm l i < 65536 := by
  rw [← get_setL hb]; exact get_bd (ok_setL hb).2.2 i
/-- A list that is a set already has what it has. -/
theorem hasm_asc {L : PL} (h : Asc L) (i : Nat) : hasm L i = getL L i := by
  have aux : ∀ (L : PL), Asc L → ∀ m, L.foldl (fun m p => if p.1 = i then m ||| p.2 else m) m = m ||| getL L i := by
    intro L
    induction L with
    | nil => intro _ m; simp [getL]
    | cons y r ih =>
      intro h m
      have hc := List.pairwise_cons.1 h
      rw [List.foldl_cons]
      by_cases e : y.1 = i
      · have hn : hasL r i = false := not_has_of fun p hp => by have := hc.1 p hp; omega
        rw [if_pos e, ih hc.2, get_of_not_has hn]
        simp [getL, e]
      · have e' : (y.1 == i) = false := by simpa using e
        rw [if_neg e, ih hc.2]
        simp [getL, e']
  have := aux L h 0
  simpa [hasm] using this
theorem setL_ok {L : PL} (h : Ok L) : setL L = L := ok_ext (ok_setL h.2.2) h fun i => by rw [get_setL h.2.2, hasm_asc h.1]
theorem setL_congr {a b : PL} (ha : Bd a) (hb : Bd b) : setL a = setL b ↔ ∀ i, hasm a i = hasm b i :=
  ⟨fun h i => by rw [← get_setL ha, ← get_setL hb, h], fun h => ok_ext (ok_setL ha) (ok_setL hb) fun i => by rw [get_setL ha, get_setL hb, h]⟩

/-! ### discarding -/
def discL (L : PL) (i m : Nat) : PL := if getL L i &&& m = 0 then L else if andn (getL L i) m = 0 then delL L i else putL L i (andn (getL L i) m)
theorem get_disc {L : PL} (h : Asc L) (i m j : Nat) : getL (discL L i m) j = if j = i then andn (getL L i) m else getL L j := by
  unfold discL
  split
  · rename_i e
    split
    · rename_i hj; subst hj; rw [andn_of_and e]
    · rfl
  · split
    · rename_i e; rw [get_del h, e]
    · exact get_put h ..
theorem ok_disc {L : PL} (h : Ok L) {i m : Nat} (hi : i < 4294967296) : Ok (discL L i m) := by
  unfold discL
  split
  · exact h
  · split
    · exact ⟨asc_delL h.1 i, nz_del h.2.1 i, bd_del h.2.2 i⟩
    · rename_i e
      exact ⟨asc_putL h.1 .., nz_put h.2.1 e, bd_put h.2.2 hi (andn_lt m (get_bd h.2.2 i))⟩

/-! ### the reference's map and list -/
def mapM (l : PL) : PL := l.foldl (fun M p => putL M p.1 (getL M p.1 ||| p.2)) []
theorem mapM_snoc (l : PL) (p : Nat × Nat) : mapM (l ++ [p]) = putL (mapM l) p.1 (getL (mapM l) p.1 ||| p.2) := by simp [mapM, List.foldl_append]
theorem asc_mapM (l : PL) : Asc (mapM l) := by
  induction l using snoc_ind with
  | h0 => exact asc_nil
  | h1 l x ih => rw [mapM_snoc]; exact asc_putL ih ..
theorem bd_mapM {l : PL} (hb : Bd l) : Bd (mapM l) := by
  induction l using snoc_ind with
  | h0 => exact bd_nil
  | h1 l x ih =>
    have h := ih fun p hp => hb p (by simp [hp])
    have hx := hb x (by simp)
    rw [mapM_snoc]; exact bd_put h hx.1 (or_lt16 (get_bd h _) hx.2)
theorem get_mapM (l : PL) (i : Nat) : getL (mapM l) i = hasm l i := by
  induction l using snoc_ind with
  | h0 => rfl
  | h1 l x ih =>
    rw [mapM_snoc, get_put (asc_mapM l), hasm_snoc]
    by_cases e : i = x.1
    · subst e; rw [if_pos rfl, if_pos rfl, ih]
    · rw [if_neg e, if_neg (fun h => e h.symm), ih]
theorem length_insL (x : Nat × Nat) : ∀ l : PL, (insL x l).length = l.length + 1
  | [] => rfl
  | y :: r => by unfold insL; split <;> simp [length_insL x r]
theorem length_putL (L : PL) (i v : Nat) : (putL L i v).length ≤ L.length + 1 := by
  rw [putL, length_insL]; have := List.length_filter_le (fun p : Nat × Nat => !(p.1 == i)) L; unfold delL; omega
theorem length_mapM (l : PL) : (mapM l).length ≤ l.length := by
  induction l using snoc_ind with
  | h0 => simp [mapM]
  | h1 l x ih => rw [mapM_snoc]; have := length_putL (mapM l) x.1 (getL (mapM l) x.1 ||| x.2); simp; omega
theorem length_addL (L : PL) (i m : Nat) : (addL L i m).length ≤ L.length + 1 := by
  unfold addL; split
  · omega
  · exact length_putL ..
theorem length_setL (l : PL) : (setL l).length ≤ l.length := by
  induction l using snoc_ind with
  | h0 => simp [setL]
  | h1 l x ih => rw [setL_snoc]; have := length_addL (setL l) x.1 x.2; simp; omega

/-- What 'Sorted' answers. -/
def sortedL (l : PL) : PL := (mapM l).filter fun p => p.2 != 0
theorem asc_sortedL (l : PL) : Asc (sortedL l) := List.Pairwise.filter _ (asc_mapM l)
theorem ok_sortedL {l : PL} (hb : Bd l) : Ok (sortedL l) :=
  ⟨asc_sortedL l, fun p hp => by have := (List.mem_filter.1 hp).2; simpa using this, fun p hp => bd_mapM hb p (List.mem_filter.1 hp).1⟩
theorem get_sortedL (l : PL) (i : Nat) : getL (sortedL l) i = hasm l i := by
  rw [← get_mapM]
  cases hh : hasL (mapM l) i with
  | true =>
    by_cases e : getL (mapM l) i = 0
    · rw [e]; refine get_of_not_has ?_
      rw [hasL, List.any_eq_false]
      intro p hp hpi
      have h1 := List.mem_filter.1 hp
      have h2 : p.1 = i := by simpa using hpi
      have := get_of_mem (asc_mapM l) (i := p.1) (v := p.2) h1.1
      rw [h2, e] at this
      simp [← this] at h1
    · exact get_of_mem (asc_sortedL l) (List.mem_filter.2 ⟨mem_of_has hh, by simpa using e⟩)
  | false =>
    rw [get_of_not_has hh]; refine get_of_not_has ?_
    rw [hasL, List.any_eq_false] at hh ⊢
    intro p hp; exact hh p (List.mem_filter.1 hp).1
theorem setL_eq_sorted {l : PL} (hb : Bd l) : setL l = sortedL l := ok_ext (ok_setL hb) (ok_sortedL hb) fun i => by rw [get_setL hb, get_sortedL]
theorem length_sortedL (l : PL) : (sortedL l).length ≤ l.length := Nat.le_trans (List.length_filter_le ..) (length_mapM l)
/-- What 'Sorted' answers: the one ascending list without empty ones that has what l has. -/
theorem sortedL_uniq {l L : PL} (hb : Bd l) (h : Ok L) (hg : ∀ i, getL L i = hasm l i) : L = sortedL l := ok_ext h (ok_sortedL hb) fun i => by rw [hg, get_sortedL]

/-- What 'Less' sorts at its end. -/
def lessM (a b : PL) : PL := (sortedL a).map fun p => (p.1, andn p.2 (hasm b p.1))
def lessL (a b : PL) : PL := sortedL (lessM a b)
theorem bd_lessM {a : PL} (b : PL) (ha : Bd a) : Bd (lessM a b) := fun p hp => by
  obtain ⟨q, hq, rfl⟩ := List.mem_map.1 hp
  have := (ok_sortedL ha).2.2 q hq
  exact ⟨this.1, andn_lt _ this.2⟩
theorem asc_lessM (a b : PL) : Asc (lessM a b) := by
  unfold lessM Asc; rw [List.pairwise_map]; exact asc_sortedL a
theorem hasm_lessM (a b : PL) (i : Nat) : hasm (lessM a b) i = andn (hasm a i) (hasm b i) := by
  rw [hasm_asc (asc_lessM a b), ← get_sortedL]
  cases hh : hasL (sortedL a) i with
  | true => exact get_of_mem (asc_lessM a b) (List.mem_map.2 ⟨_, mem_of_has hh, rfl⟩)
  | false =>
    rw [get_of_not_has hh, zero_andn]
    refine get_of_not_has ?_
    rw [hasL, List.any_eq_false] at hh ⊢
    intro p hp
    obtain ⟨q, hq, rfl⟩ := List.mem_map.1 hp
    exact hh q hq
theorem ok_lessL {a : PL} (b : PL) (ha : Bd a) : Ok (lessL a b) := ok_sortedL (bd_lessM b ha)
theorem get_lessL (a b : PL) (i : Nat) : getL (lessL a b) i = andn (hasm a i) (hasm b i) := by rw [lessL, get_sortedL, hasm_lessM]
theorem length_lessM (a b : PL) : (lessM a b).length ≤ a.length := by rw [lessM, List.length_map]; exact length_sortedL a
theorem length_lessL (a b : PL) : (lessL a b).length ≤ a.length := Nat.le_trans (length_sortedL _) (length_lessM a b)

theorem eq_nil_iff {L : PL} (h : Ok L) : L = [] ↔ ∀ i, getL L i = 0 := by
  constructor
  · rintro rfl i; rfl
  · intro hz
    exact ok_ext h ok_nil fun i => by rw [hz]; rfl
theorem length_lessL_zero {a : PL} (b : PL) (ha : Bd a) : (lessL a b).length = 0 ↔ ∀ i, andn (hasm a i) (hasm b i) = 0 := by
  rw [List.length_eq_zero_iff, eq_nil_iff (ok_lessL b ha)]
  simp only [get_lessL]

/-- Equal sets: none has a part that the other one lacks. -/
theorem same_iff {a b : PL} (ha : Bd a) (hb : Bd b) : setL a = setL b ↔ (lessL a b).length + (lessL b a).length = 0 := by
  rw [setL_congr ha hb, Nat.add_eq_zero_iff, length_lessL_zero b ha, length_lessL_zero a hb]
  constructor
  · intro h
    exact ⟨fun i => by rw [h, andn]; simp, fun i => by rw [h, andn]; simp⟩
  · rintro ⟨h1, h2⟩ i
    have e1 := (andn_zero_iff _ _).1 (h1 i)
    have e2 := (andn_zero_iff _ _).1 (h2 i)
    rw [Nat.and_comm] at e2
    rw [← e1, e2]

/-- The order of a list does not matter. -/
theorem hasm_perm {a b : PL} (h : a.Perm b) (i : Nat) : hasm a i = hasm b i := by
  unfold hasm
  refine List.Perm.foldl_eq' h ?_ _
  intro x _ y _ z
  split <;> split <;> simp [Nat.or_assoc, Nat.or_comm x.2 y.2]

/-! ### equality as 'Equals' finds it -/
theorem sublist_of : ∀ (b : PL) {a : PL}, Asc a → Asc b → (∀ p ∈ a, p ∈ b) → a.Sublist b
  | _, [], _, _, _ => List.nil_sublist _
  | [], x :: r, _, _, h => by have := h x (List.mem_cons_self ..); cases this
  | y :: s, x :: r, ha, hb, h => by
    have ca := List.pairwise_cons.1 ha
    have cb := List.pairwise_cons.1 hb
    by_cases e : x = y
    · subst e
      refine List.Sublist.cons_cons x (sublist_of s ca.2 cb.2 fun p hp => ?_)
      rcases List.mem_cons.1 (h p (List.mem_cons_of_mem _ hp)) with rfl | hs
      · have := ca.1 _ hp; omega
      · exact hs
    · have hx : x ∈ s := by
        rcases List.mem_cons.1 (h x (List.mem_cons_self ..)) with h1 | h1
        · exact absurd h1 e
        · exact h1
      have hyx := cb.1 x hx
      refine List.Sublist.cons y (sublist_of s ha cb.2 fun p hp => ?_)
      rcases List.mem_cons.1 (h p hp) with rfl | hs
      · rcases List.mem_cons.1 hp with rfl | hp'
        · omega
        · have := ca.1 _ hp'; omega
      · exact hs
theorem eq_of_sub {a b : PL} (ha : Asc a) (hb : Asc b) (hl : a.length = b.length) (h : ∀ p ∈ a, p ∈ b) : a = b :=
  (sublist_of b ha hb h).eq_of_length hl

end Go.Proofs.Ytmonokfibldghaa.Pl
