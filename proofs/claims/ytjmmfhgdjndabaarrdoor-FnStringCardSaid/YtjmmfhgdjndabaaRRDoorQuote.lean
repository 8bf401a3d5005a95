/- What quoting gives for a text of plain signs: the text between two quotes. Conditions: every sign from 32 to 126, no quote and no stroke back. -/
import Derived.Lib.QuoteLoop
import Derived.Lib.TrimAscii
import Derived.Laws.BytesArg

namespace Go.Proofs.YtjmmfhgdjndabaaRRDoor
open Go.Lib

/-- A plain sign. -/
def Sign (b : UInt8) : Prop := 32 ≤ b.toNat ∧ b.toNat ≤ 126 ∧ b.toNat ≠ 34 ∧ b.toNat ≠ 92

theorem decode_one (b : UInt8) (t : List UInt8) (h : b.toNat < 128) : Utf8.decode ⟨(b :: t).toArray⟩ 0 = (b.toNat, 1) :=
  decodeL_ascii b t h

theorem rest_one (b : UInt8) (t : List UInt8) : (⟨(b :: t).toArray⟩ : ByteArray).extract 1 (⟨(b :: t).toArray⟩ : ByteArray).size = ⟨t.toArray⟩ := by
  apply ByteArray.ext
  simp [ByteArray.data_extract, ByteArray.size]

theorem esc_plain (T : PrintTabs) (b : UInt8) (h : Sign b) : escRune T (b.toNat : Int) = [(b.toNat : Int)] := by
  obtain ⟨h1, h2, h3, h4⟩ := h
  unfold escRune
  rw [if_neg (by omega), if_pos, encodeRuneZ_one (by omega) (by omega)]
  unfold isPrintR isPrintLatin
  rw [if_pos (by omega)]
  simp
  omega

theorem quoteFrom_plain (T : PrintTabs) : ∀ (f : Nat) (l : List UInt8), l.length ≤ f → (∀ b ∈ l, Sign b) → quoteFrom T f ⟨l.toArray⟩ = l.map fun b => (b.toNat : Int)
  | 0, [], _, _ => rfl
  | 0, b :: t, hf, _ => by simp at hf
  | f + 1, [], _, _ => rfl
  | f + 1, b :: t, hf, h => by
    have hb := h b (by simp)
    have hd := decode_one b t (by have := hb.2.1; omega)
    have hs : 0 < (⟨(b :: t).toArray⟩ : ByteArray).size := by simp [ByteArray.size]
    have ht := quoteFrom_plain T f t (by simp at hf; omega) (fun c hc => h c (by simp [hc]))
    have hq : quoteStep T ⟨(b :: t).toArray⟩ = [(b.toNat : Int)] := by
      rw [quoteStep_good T _ (by rw [hd]; have := hb.2.1; simp only; omega), hd]
      exact esc_plain T b hb
    rw [quoteFrom, if_pos hs, hd, rest_one, ht, hq]
    rfl

theorem nums_of (l : List UInt8) : strOfNums (l.map fun b => (b.toNat : Int)) = ⟨l.toArray⟩ := by
  have e : ((l.map fun b => (b.toNat : Int)).map fun n => UInt8.ofNat n.toNat) = l := by
    induction l with
    | nil => rfl
    | cons b t ih => simp only [List.map_cons, ih]; simp
  unfold strOfNums
  rw [e]

/-- The text between two quotes. -/
theorem quote_plain (T : PrintTabs) (l : List UInt8) (h : ∀ b ∈ l, Sign b) : strOfNums (quoteZ T ⟨l.toArray⟩) = ⟨(34 :: (l ++ [34])).toArray⟩ := by
  unfold quoteZ
  rw [quoteFrom_plain T _ l (by simp [ByteArray.size]) h]
  have e : (34 : Int) :: ((l.map fun b => (b.toNat : Int)) ++ [34]) = (34 :: (l ++ [34])).map fun b : UInt8 => (b.toNat : Int) := by simp
  rw [e]
  exact nums_of _

end Go.Proofs.YtjmmfhgdjndabaaRRDoor
