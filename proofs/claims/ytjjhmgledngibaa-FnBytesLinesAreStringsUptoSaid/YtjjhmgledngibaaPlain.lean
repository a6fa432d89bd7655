/-
  The lines of a list of bytes, each with the newline that ends it: plain lemmas, no program.
-/
import Derived.Lib.IndexLaws
import Derived.Lib.IndexBytes
import Derived.Lib.SmallJoins
namespace Go.Proofs.Ytjjhmgledngibaa.plain

def linesGo : List UInt8 → List UInt8 → List (List UInt8)
  | cur, [] => if cur = [] then [] else [cur]
  | cur, c :: r => if c = 10 then (cur ++ [c]) :: linesGo [] r else linesGo (cur ++ [c]) r
def lines (l : List UInt8) : List (List UInt8) := linesGo [] l

theorem linesGo_skip : ∀ (l : List UInt8) (cur r : List UInt8), (∀ k : Nat, l[k]? ≠ some 10) → linesGo cur (l ++ r) = linesGo (cur ++ l) r
  | [], cur, r, _ => by simp
  | c :: l, cur, r, h => by
    have hc : c ≠ 10 := fun e => h 0 (by simp [e])
    have ih := linesGo_skip l (cur ++ [c]) r (fun k => by have := h (k + 1); simpa using this)
    simp only [List.cons_append, linesGo, if_neg hc]
    rw [ih]
    simp

theorem lines_miss (l : List UInt8) (h : Lib.indexByte l 10 = -1) (hl : l ≠ []) : lines l = [l] := by
  have := linesGo_skip l [] [] (fun k => Lib.indexByte_none h k)
  unfold lines
  rw [List.append_nil, List.nil_append] at this
  rw [this, linesGo, if_neg hl]

theorem lines_hit (l : List UInt8) (o : Nat) (h : Lib.indexByte l 10 = o) : lines l = l.take (o + 1) :: lines (l.drop (o + 1)) := by
  obtain ⟨h1, h2⟩ := Lib.indexByte_some h
  have ho : o < l.length := (List.getElem?_eq_some_iff.1 h1).1
  have e : l = l.take o ++ (10 :: l.drop (o + 1)) := by
    have h3 : l.drop o = 10 :: l.drop (o + 1) := by
      rw [List.drop_eq_getElem_cons ho]
      congr 1
      exact (List.getElem?_eq_some_iff.1 h1).2
    rw [← h3, List.take_append_drop]
  have sk := linesGo_skip (l.take o) [] (10 :: l.drop (o + 1)) (fun k => by
    rw [List.getElem?_take]
    split
    · exact h2 k (by assumption)
    · simp)
  unfold lines
  conv => lhs; rw [e]
  rw [sk, linesGo, if_pos rfl, List.nil_append]
  congr 1
  rw [List.take_add_one, h1]
  rfl

theorem linesGo_flatten : ∀ (l cur : List UInt8), (linesGo cur l).flatten = cur ++ l
  | [], cur => by unfold linesGo; split <;> simp_all
  | c :: r, cur => by
    unfold linesGo
    split
    · rw [List.flatten_cons, linesGo_flatten r []]; simp
    · rw [linesGo_flatten r _]; simp
theorem lines_flatten (l : List UInt8) : (lines l).flatten = l := by unfold lines; rw [linesGo_flatten]; rfl

theorem linesGo_length : ∀ (l cur : List UInt8), (linesGo cur l).length ≤ l.length + (if cur = [] then 0 else 1)
  | [], cur => by unfold linesGo; split <;> simp_all
  | c :: r, cur => by
    unfold linesGo
    split
    · have := linesGo_length r []; simp at this ⊢; omega
    · have := linesGo_length r (cur ++ [c]); simp at this ⊢; split <;> omega
theorem lines_length (l : List UInt8) : (lines l).length ≤ l.length := by have := linesGo_length l []; simpa [lines] using this

/-- A list of bytes as a string. -/
def ba (l : List UInt8) : ByteArray := ⟨l.toArray⟩
theorem ba_data (l : List UInt8) : (ba l).data.toList = l := by simp [ba]
theorem ba_of (s : ByteArray) : ba s.data.toList = s := by simp [ba]
theorem ba_size (l : List UInt8) : (ba l).size = l.length := by rw [Lib.size_eq, ba_data]
/-- The lines of a string. -/
def linesB (s : ByteArray) : List ByteArray := (lines s.data.toList).map ba
theorem extract_ba (s : ByteArray) (a b : Nat) : s.extract a b = ba ((s.data.toList.drop a).take (b - a)) := by
  rw [← Lib.extract_data, ba_of]
theorem linesB_hit (s : ByteArray) (o : Nat) (h : Lib.indexByte s.data.toList 10 = o) : linesB s = s.extract 0 (o + 1) :: linesB (s.extract (o + 1) s.size) := by
  unfold linesB
  rw [lines_hit _ o h, List.map_cons, extract_ba, Lib.extract_to_end]
  simp
theorem linesB_miss (s : ByteArray) (h : Lib.indexByte s.data.toList 10 = -1) (hl : 0 < s.size) : linesB s = [s] := by
  unfold linesB
  rw [lines_miss _ h (fun e => by rw [Lib.size_eq, e] at hl; exact absurd hl (Nat.lt_irrefl 0))]
  simp [ba_of]
theorem linesB_empty (s : ByteArray) (h : s.size = 0) : linesB s = [] := by
  unfold linesB
  have : s.data.toList = [] := List.eq_nil_of_length_eq_zero (by rw [← Lib.size_eq]; exact h)
  rw [this]
  rfl
theorem linesB_length (s : ByteArray) : (linesB s).length ≤ s.size := by
  unfold linesB
  rw [List.length_map, Lib.size_eq]
  exact lines_length _

/-- spec.Lines after k rounds: 'acc' are the lines that have ended; the next one begins at 'from'. -/
def LinesAt (s : ByteArray) (k beg : Nat) (acc : List ByteArray) : Prop :=
  beg ≤ k ∧ k ≤ s.size ∧ acc.length ≤ k ∧ linesB s = acc ++ (linesGo ((s.data.toList.drop beg).take (k - beg)) (s.data.toList.drop k)).map ba
theorem LinesAt.start (s : ByteArray) : LinesAt s 0 0 [] := ⟨Nat.le_refl _, Nat.zero_le _, Nat.le_refl _, by simp [linesB, lines]⟩
theorem drop_at (s : ByteArray) (k : Nat) (h : k < s.size) : s.data.toList.drop k = s[k] :: s.data.toList.drop (k + 1) := by
  rw [List.drop_eq_getElem_cons (by rw [← Lib.size_eq]; exact h)]
  rfl
theorem take_at (s : ByteArray) (k beg : Nat) (h : k < s.size) (hb : beg ≤ k) : (s.data.toList.drop beg).take (k - beg) ++ [s[k]] = (s.data.toList.drop beg).take (k + 1 - beg) := by
  rw [show k + 1 - beg = (k - beg) + 1 by omega, List.take_add_one, List.getElem?_drop, show beg + (k - beg) = k by omega]
  have : s.data.toList[k]? = some s[k] := by
    rw [List.getElem?_eq_getElem (by rw [← Lib.size_eq]; exact h)]
    rfl
  rw [this]
  rfl
theorem LinesAt.hit {s : ByteArray} {k beg : Nat} {acc : List ByteArray} (h : LinesAt s k beg acc) (hk : k < s.size) (hc : s[k] = 10) : LinesAt s (k + 1) (k + 1) (acc ++ [s.extract beg (k + 1)]) := by
  obtain ⟨h1, h2, h3, h4⟩ := h
  refine ⟨Nat.le_refl _, hk, by simp; omega, ?_⟩
  rw [h4, drop_at s k hk, linesGo, if_pos hc, take_at s k beg hk h1, List.map_cons, ← extract_ba]
  simp
theorem LinesAt.miss {s : ByteArray} {k beg : Nat} {acc : List ByteArray} (h : LinesAt s k beg acc) (hk : k < s.size) (hc : s[k] ≠ 10) : LinesAt s (k + 1) beg acc := by
  obtain ⟨h1, h2, h3, h4⟩ := h
  refine ⟨by omega, hk, by omega, ?_⟩
  rw [h4, drop_at s k hk, linesGo, if_neg hc, take_at s k beg hk h1]
theorem LinesAt.last_some {s : ByteArray} {k beg : Nat} {acc : List ByteArray} (h : LinesAt s k beg acc) (hk : k = s.size) (hb : beg < s.size) : acc ++ [s.extract beg s.size] = linesB s := by
  obtain ⟨h1, h2, h3, h4⟩ := h
  have hd : s.data.toList.drop k = [] := List.drop_eq_nil_of_le (by rw [← Lib.size_eq]; omega)
  rw [h4, hd, linesGo, if_neg, hk, List.map_cons, ← extract_ba, List.map_nil]
  intro e
  have := congrArg List.length e
  rw [List.length_take, List.length_drop, ← Lib.size_eq] at this
  simp at this
  omega
theorem LinesAt.last_none {s : ByteArray} {k beg : Nat} {acc : List ByteArray} (h : LinesAt s k beg acc) (hk : k = s.size) (hb : ¬ beg < s.size) : acc = linesB s := by
  obtain ⟨h1, h2, h3, h4⟩ := h
  have hd : s.data.toList.drop k = [] := List.drop_eq_nil_of_le (by rw [← Lib.size_eq]; omega)
  rw [h4, hd, linesGo, if_pos, List.map_nil, List.append_nil]
  rw [show k - beg = 0 by omega, List.take_zero]
end Go.Proofs.Ytjjhmgledngibaa.plain
