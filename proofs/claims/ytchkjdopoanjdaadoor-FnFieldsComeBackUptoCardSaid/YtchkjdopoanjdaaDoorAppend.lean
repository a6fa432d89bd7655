/-
  Plain laws: the code points of strings that are put together; pieces of such strings; each piece has no code point of the class; the lengths.
-/
import Derived.Test.YtchkjdopoanjdaaDoorChars
namespace Go.Proofs.YtchkjdopoanjdaaDoor.plain
open Go.Lib
set_option linter.unusedVariables false

theorem decodeN_app (n n' b0 b1 b2 b3 c1 c2 c3 : Nat) (hn : 1 ≤ n) (hnn : n ≤ n') (h1 : 1 < n → c1 = b1) (h2 : 2 < n → c2 = b2) (h3 : 3 < n → c3 = b3)
    (v1 : n = 1 → 1 < n' → c1 / 64 ≠ 2) (v2 : n = 2 → 2 < n' → c2 / 64 ≠ 2) (v3 : n = 3 → 3 < n' → c3 / 64 ≠ 2) : decodeN n' b0 c1 c2 c3 = decodeN n b0 b1 b2 b3 := by
  by_cases e1 : n = 1
  · have := v1 e1
    unfold decodeN
    rw [if_neg (c := b0 / 32 = 6 ∧ (1 < n' ∧ c1 / 64 = 2)) (fun h => this h.2.1 h.2.2), if_neg (c := b0 / 16 = 14 ∧ (1 < n' ∧ c1 / 64 = 2) ∧ (2 < n' ∧ c2 / 64 = 2)) (fun h => this h.2.1.1 h.2.1.2), if_neg (c := b0 / 8 = 30 ∧ (1 < n' ∧ c1 / 64 = 2) ∧ (2 < n' ∧ c2 / 64 = 2) ∧ (3 < n' ∧ c3 / 64 = 2)) (fun h => this h.2.1.1 h.2.1.2),
      if_neg (c := b0 / 32 = 6 ∧ (1 < n ∧ b1 / 64 = 2)) (fun h => by omega), if_neg (c := b0 / 16 = 14 ∧ (1 < n ∧ b1 / 64 = 2) ∧ (2 < n ∧ b2 / 64 = 2)) (fun h => by omega), if_neg (c := b0 / 8 = 30 ∧ (1 < n ∧ b1 / 64 = 2) ∧ (2 < n ∧ b2 / 64 = 2) ∧ (3 < n ∧ b3 / 64 = 2)) (fun h => by omega)]
  · rw [h1 (by omega)]
    have a1 : (1 < n' ∧ b1 / 64 = 2) = (1 < n ∧ b1 / 64 = 2) := propext ⟨fun h => ⟨by omega, h.2⟩, fun h => ⟨by omega, h.2⟩⟩
    by_cases e2 : n = 2
    · have := v2 e2
      unfold decodeN
      simp only [a1]
      rw [if_neg (c := b0 / 16 = 14 ∧ (1 < n ∧ b1 / 64 = 2) ∧ (2 < n' ∧ c2 / 64 = 2)) (fun h => this h.2.2.1 h.2.2.2), if_neg (c := b0 / 8 = 30 ∧ (1 < n ∧ b1 / 64 = 2) ∧ (2 < n' ∧ c2 / 64 = 2) ∧ (3 < n' ∧ c3 / 64 = 2)) (fun h => this h.2.2.1.1 h.2.2.1.2),
        if_neg (c := b0 / 16 = 14 ∧ (1 < n ∧ b1 / 64 = 2) ∧ (2 < n ∧ b2 / 64 = 2)) (fun h => by omega), if_neg (c := b0 / 8 = 30 ∧ (1 < n ∧ b1 / 64 = 2) ∧ (2 < n ∧ b2 / 64 = 2) ∧ (3 < n ∧ b3 / 64 = 2)) (fun h => by omega)]
    · rw [h2 (by omega)]
      have a2 : (2 < n' ∧ b2 / 64 = 2) = (2 < n ∧ b2 / 64 = 2) := propext ⟨fun h => ⟨by omega, h.2⟩, fun h => ⟨by omega, h.2⟩⟩
      by_cases e3 : n = 3
      · have := v3 e3
        unfold decodeN
        simp only [a1, a2]
        rw [if_neg (c := b0 / 8 = 30 ∧ (1 < n ∧ b1 / 64 = 2) ∧ (2 < n ∧ b2 / 64 = 2) ∧ (3 < n' ∧ c3 / 64 = 2)) (fun h => this h.2.2.2.1 h.2.2.2.2),
          if_neg (c := b0 / 8 = 30 ∧ (1 < n ∧ b1 / 64 = 2) ∧ (2 < n ∧ b2 / 64 = 2) ∧ (3 < n ∧ b3 / 64 = 2)) (fun h => by omega)]
      · rw [h3 (by omega)]
        have a3 : (3 < n' ∧ b3 / 64 = 2) = (3 < n ∧ b3 / 64 = 2) := propext ⟨fun h => ⟨by omega, h.2⟩, fun h => ⟨by omega, h.2⟩⟩
        unfold decodeN
        simp only [a1, a2, a3]

/-- A list that may follow: it does not go on with a sequence's byte. -/
def Fresh (v : List UInt8) : Prop := v = [] ∨ (v.getD 0 0).toNat / 64 ≠ 2
theorem getD_left (u v : List UInt8) (k : Nat) (h : k < u.length) : (u ++ v).getD k 0 = u.getD k 0 := by
  simp [List.getD, List.getElem?_append_left h]
theorem getD_first (u v : List UInt8) : (u ++ v).getD u.length 0 = v.getD 0 0 := by
  simp [List.getD, List.getElem?_append_right (Nat.le_refl u.length)]
theorem decodeL_app {u v : List UInt8} (hu : u ≠ []) (hv : Fresh v) : decodeL (u ++ v) = decodeL u := by
  have hl : 0 < u.length := Nat.pos_of_ne_zero fun e => hu (List.eq_nil_of_length_eq_zero e)
  have hf : u.length < (u ++ v).length → ((u ++ v).getD u.length 0).toNat / 64 ≠ 2 := fun h => by
    rw [getD_first]
    rcases hv with rfl | hv
    · simp at h
    · exact hv
  rw [decodeL_N, decodeL_N, getD_left u v 0 hl]
  refine decodeN_app _ _ _ _ _ _ _ _ _ hl (by rw [List.length_append]; omega) (fun h => by rw [getD_left u v 1 h]) (fun h => by rw [getD_left u v 2 h]) (fun h => by rw [getD_left u v 3 h]) ?_ ?_ ?_
  · intro e h; have := hf (by omega); rwa [e] at this
  · intro e h; have := hf (by omega); rwa [e] at this
  · intro e h; have := hf (by omega); rwa [e] at this
theorem chars_app {v : List UInt8} (hv : Fresh v) (u : List UInt8) : chars (u ++ v) = chars u ++ chars v := by
  induction u using chars_ind with
  | nil => rfl
  | cons u h ih =>
    have hw := dl_le h
    have e := decodeL_app h hv
    rw [chars_cons (by simp [h] : u ++ v ≠ []), chars_cons h, e, List.take_append_of_le_length hw, List.drop_append_of_le_length hw, ih]
    rfl

theorem fieldsC_sep {p : Nat → Bool} {c : Chunk} (hc : p c.1 = true) (ds : List Chunk) : ∀ (cs : List Chunk) (cur : List UInt8), fieldsC p (cs ++ c :: ds) cur = fieldsC p cs cur ++ fieldsC p ds []
  | [], cur => by simp [fieldsC, hc]
  | x :: cs, cur => by
    simp only [List.cons_append, fieldsC]
    split
    · rw [fieldsC_sep hc ds cs [], List.append_assoc]
    · exact fieldsC_sep hc ds cs _
theorem fieldsC_run {p : Nat → Bool} : ∀ (cs : List Chunk) (cur : List UInt8), (∀ c ∈ cs, p c.1 = false) → fieldsC p cs cur = fin (cur ++ cs.flatMap (·.2))
  | [], cur, _ => by simp [fieldsC]
  | c :: cs, cur, h => by
    simp only [fieldsC, h c (List.mem_cons_self ..), Bool.false_eq_true, if_false]
    rw [fieldsC_run cs _ fun x hx => h x (List.mem_cons_of_mem _ hx), List.flatMap_cons, List.append_assoc]

/-- A piece: not empty, and no code point of the class in it. -/
def Whole (p : Nat → Bool) (x : List UInt8) : Prop := x ≠ [] ∧ ∀ c ∈ chars x, p c.1 = false
theorem Whole.one {p : Nat → Bool} {x : List UInt8} (h : Whole p x) : fieldsL p x = [x] := by
  unfold fieldsL
  rw [fieldsC_run _ _ h.2, List.nil_append, chars_flat, fin, if_neg h.1]
theorem fresh_of {p : Nat → Bool} (he : p 65533 = false) {v : List UInt8} (hp : p (decodeL v).1 = true) : Fresh v := by
  refine .inr fun h => ?_
  have : decodeL v = (65533, 1) := by rw [decodeL_N]; exact decodeN_cont _ _ _ _ _ h
  rw [this, he] at hp
  cases hp
theorem pieces_whole {p : Nat → Bool} (he : p 65533 = false) (v : List UInt8) : ∀ (cur : List UInt8) (cc : List Chunk), chars (cur ++ v) = cc ++ chars v → (∀ c ∈ cc, p c.1 = false) → ∀ x ∈ fieldsC p (chars v) cur, Whole p x := by
  induction v using chars_ind with
  | nil =>
    intro cur cc h1 h2 x hx
    rw [chars_nil, fieldsC, fin] at hx
    split at hx
    · cases hx
    · rename_i hne
      obtain rfl : x = cur := by simpa using hx
      rw [List.append_nil, chars_nil, List.append_nil] at h1
      exact ⟨hne, by rw [h1]; exact h2⟩
  | cons v h ih =>
    intro cur cc h1 h2 x hx
    rw [chars_cons h, fieldsC] at hx
    split at hx
    · rename_i hp
      rcases List.mem_append.1 hx with hx | hx
      · rw [fin] at hx
        split at hx
        · cases hx
        · rename_i hne
          obtain rfl : x = cur := by simpa using hx
          rw [chars_app (fresh_of he hp)] at h1
          exact ⟨hne, by rw [List.append_cancel_right h1]; exact h2⟩
      · exact ih [] [] rfl (fun c hc => by cases hc) x hx
    · rename_i hp
      refine ih _ (cc ++ [((decodeL v).1, v.take (decodeL v).2)]) ?_ ?_ x hx
      · rw [List.append_assoc, List.take_append_drop, h1, chars_cons h, List.append_assoc]
        rfl
      · intro c hc
        rcases List.mem_append.1 hc with hc | hc
        · exact h2 c hc
        · obtain rfl : c = ((decodeL v).1, v.take (decodeL v).2) := by simpa using hc
          simpa using hp
theorem fields_whole {p : Nat → Bool} (he : p 65533 = false) (l : List UInt8) : ∀ x ∈ fieldsL p l, Whole p x := pieces_whole he l [] [] rfl (fun c hc => by cases hc)

/-- The lengths. -/
def total (xs : List (List UInt8)) : Nat := (xs.map List.length).sum
theorem total_fin (cur : List UInt8) : total (fin cur) = cur.length := by unfold fin; split <;> simp_all [total]
theorem total_app (xs ys : List (List UInt8)) : total (xs ++ ys) = total xs + total ys := by simp [total]
theorem total_both {p q : Nat → Bool} (hq : ∀ r, q r = !p r) : ∀ (cs : List Chunk) (c1 c2 : List UInt8), total (fieldsC p cs c1) + total (fieldsC q cs c2) = c1.length + c2.length + (cs.flatMap (·.2)).length
  | [], c1, c2 => by simp [fieldsC, total_fin]
  | c :: cs, c1, c2 => by
    cases hp : p c.1
    · have hqc : q c.1 = true := by rw [hq, hp]; rfl
      have := total_both hq cs (c1 ++ c.2) []
      simp only [fieldsC, hp, hqc, if_true, Bool.false_eq_true, if_false, total_app, total_fin, List.flatMap_cons, List.length_append] at this ⊢
      simp at this ⊢
      omega
    · have hqc : q c.1 = false := by rw [hq, hp]; rfl
      have := total_both hq cs [] (c2 ++ c.2)
      simp only [fieldsC, hp, hqc, if_true, Bool.false_eq_true, if_false, total_app, total_fin, List.flatMap_cons, List.length_append] at this ⊢
      simp at this ⊢
      omega
theorem total_all {p q : Nat → Bool} (hq : ∀ r, q r = !p r) (l : List UInt8) : total (fieldsL p l) + total (fieldsL q l) = l.length := by
  have := total_both hq (chars l) [] []
  rw [chars_flat] at this
  simpa [fieldsL] using this

/-- A separator: bytes that decode as one code point of the class, whatever follows. -/
structure Sep (p : Nat → Bool) (e : List UInt8) (r : Nat) : Prop where
  cls : p r = true
  fresh : ∀ v, Fresh (e ++ v)
  dec : ∀ v, chars (e ++ v) = (r, e) :: chars v
theorem sep_two {p : Nat → Bool} {e : List UInt8} {r : Nat} (h : Sep p e r) (s t : List UInt8) : fieldsL p (s ++ (e ++ t)) = fieldsL p s ++ fieldsL p t := by
  unfold fieldsL
  rw [chars_app (h.fresh t), h.dec, fieldsC_sep h.cls]
theorem sep_ahead {p : Nat → Bool} {e : List UInt8} {r : Nat} (h : Sep p e r) (t : List UInt8) : fieldsL p (e ++ t) = fieldsL p t := by
  have := sep_two h [] t
  simpa [fieldsL, chars_nil, fieldsC, fin] using this
theorem sep_behind {p : Nat → Bool} {e : List UInt8} {r : Nat} (h : Sep p e r) (t : List UInt8) : fieldsL p (t ++ e) = fieldsL p t := by
  have := sep_two h t []
  simpa [fieldsL, chars_nil, fieldsC, fin] using this
def joinL (e : List UInt8) : List (List UInt8) → List UInt8
  | [] => []
  | [x] => x
  | x :: y :: r => x ++ (e ++ joinL e (y :: r))
theorem join_back {p : Nat → Bool} {e : List UInt8} {r : Nat} (h : Sep p e r) : ∀ (xs : List (List UInt8)), (∀ x ∈ xs, Whole p x) → fieldsL p (joinL e xs) = xs
  | [], _ => rfl
  | [x], hx => (hx x (List.mem_cons_self ..)).one
  | x :: y :: rs, hx => by
    rw [joinL, sep_two h, (hx x (List.mem_cons_self ..)).one, join_back h (y :: rs) fun z hz => hx z (List.mem_cons_of_mem _ hz)]
    rfl
end Go.Proofs.YtchkjdopoanjdaaDoor.plain
