/-
  Plain laws, no program in sight: a string as a list of code points with their bytes, and the pieces that FieldsFunc makes, as a walk along that list.
-/
import Derived.Lib.FieldsP
import Derived.Lib.FieldsU
namespace Go.Proofs.YtchkjdopoanjdaaDoor.plain
open Go.Lib
set_option linter.unusedVariables false

abbrev Chunk := Nat × List UInt8
def chunks : Nat → List UInt8 → List Chunk
  | 0, _ => []
  | f + 1, l => if l = [] then [] else ((decodeL l).1, l.take (decodeL l).2) :: chunks f (l.drop (decodeL l).2)
def chars (l : List UInt8) : List Chunk := chunks l.length l

theorem dl_le {l : List UInt8} (h : l ≠ []) : (decodeL l).2 ≤ l.length := by
  rw [decodeL_N]
  exact decodeN_le_n' _ _ _ _ _ (Nat.pos_of_ne_zero fun e => h (List.eq_nil_of_length_eq_zero e))

theorem chunks_nil (f : Nat) : chunks f [] = [] := by cases f <;> simp [chunks]
theorem chunks_fuel : ∀ (f g : Nat) (l : List UInt8), l.length ≤ f → l.length ≤ g → chunks f l = chunks g l
  | 0, g, l, hf, _ => by
    have : l = [] := List.eq_nil_of_length_eq_zero (by omega)
    rw [this, chunks_nil, chunks_nil]
  | f + 1, 0, l, _, hg => by
    have : l = [] := List.eq_nil_of_length_eq_zero (by omega)
    rw [this, chunks_nil, chunks_nil]
  | f + 1, g + 1, l, hf, hg => by
    by_cases hne : l = []
    · rw [hne, chunks_nil, chunks_nil]
    · have hw := decodeL_width l
      simp only [chunks, if_neg hne]
      rw [chunks_fuel f g _ (by rw [List.length_drop]; omega) (by rw [List.length_drop]; omega)]
theorem chars_nil : chars [] = [] := rfl
theorem chars_cons {l : List UInt8} (h : l ≠ []) : chars l = ((decodeL l).1, l.take (decodeL l).2) :: chars (l.drop (decodeL l).2) := by
  have hw := decodeL_width l
  have hl : 0 < l.length := Nat.pos_of_ne_zero fun e => h (List.eq_nil_of_length_eq_zero e)
  unfold chars
  rw [chunks_fuel l.length ((l.length - 1) + 1) l (Nat.le_refl _) (by omega)]
  simp only [chunks, if_neg h]
  rw [chunks_fuel (l.length - 1) (l.drop (decodeL l).2).length _ (by rw [List.length_drop]; omega) (Nat.le_refl _)]
theorem chars_ind {motive : List UInt8 → Prop} (nil : motive []) (cons : ∀ l, l ≠ [] → motive (l.drop (decodeL l).2) → motive l) (l : List UInt8) : motive l := by
  generalize hn : l.length = n
  induction n using Nat.strongRecOn generalizing l with
  | ind n ih =>
    by_cases h : l = []
    · rw [h]; exact nil
    · have hw := decodeL_width l
      have hl : 0 < l.length := Nat.pos_of_ne_zero fun e => h (List.eq_nil_of_length_eq_zero e)
      exact cons l h (ih _ (by subst hn; rw [List.length_drop]; omega) _ rfl)
theorem chars_flat (l : List UInt8) : (chars l).flatMap (·.2) = l := by
  induction l using chars_ind with
  | nil => rfl
  | cons l h ih => rw [chars_cons h, List.flatMap_cons, ih, List.take_append_drop]
theorem chars_len (l : List UInt8) : (chars l).length ≤ l.length := by
  induction l using chars_ind with
  | nil => simp [chars_nil]
  | cons l h ih =>
    have hw := decodeL_width l
    have hl : 0 < l.length := Nat.pos_of_ne_zero fun e => h (List.eq_nil_of_length_eq_zero e)
    rw [chars_cons h, List.length_cons]
    rw [List.length_drop] at ih
    omega
theorem chars_ne (l : List UInt8) : ∀ c ∈ chars l, c.2 ≠ [] := by
  induction l using chars_ind with
  | nil => intro c hc; cases hc
  | cons l h ih =>
    intro c hc
    rw [chars_cons h] at hc
    rcases List.mem_cons.1 hc with rfl | hc
    · have hw := decodeL_width l
      intro e
      have := congrArg List.length e
      have hl : 0 < l.length := Nat.pos_of_ne_zero fun e => h (List.eq_nil_of_length_eq_zero e)
      rw [List.length_take] at this
      simp at this
      rcases this with e | e
      · omega
      · exact h e
    · exact ih c hc

def fin (cur : List UInt8) : List (List UInt8) := if cur = [] then [] else [cur]
def fieldsC (p : Nat → Bool) : List Chunk → List UInt8 → List (List UInt8)
  | [], cur => fin cur
  | c :: cs, cur => if p c.1 then fin cur ++ fieldsC p cs [] else fieldsC p cs (cur ++ c.2)

theorem fin_len (cur : List UInt8) : (fin cur).length ≤ 1 := by unfold fin; split <;> simp
theorem fieldsC_len (p : Nat → Bool) : ∀ (cs : List Chunk) (cur : List UInt8), (fieldsC p cs cur).length ≤ cs.length + (fin cur).length
  | [], cur => by simp [fieldsC]
  | c :: cs, cur => by
    have h1 := fieldsC_len p cs []
    have h2 := fieldsC_len p cs (cur ++ c.2)
    have h3 := fin_len (cur ++ c.2)
    have h4 : (fin []).length = 0 := rfl
    unfold fieldsC
    split
    · rw [List.length_append, List.length_cons]; omega
    · rw [List.length_cons]; omega

theorem spansP_eq (p : Nat → Bool) (s : ByteArray) : ∀ (f pos : Nat) (st : Option Nat) (acc : List (Nat × Nat)), s.size ≤ pos + f → pos ≤ s.size → (∀ a, st = some a → a < pos) →
    acc.map (fun x => pieceU s.data.toList x.1 x.2) ++ fieldsC p (chars (s.data.toList.drop pos)) (openPiece s.data.toList st pos) = (closeSpans s (spansFromP p s f pos st acc)).map (fun x => pieceU s.data.toList x.1 x.2)
  | 0, pos, st, acc, h, hp, hst => by
    obtain rfl : pos = s.size := by omega
    have hd : s.data.toList.drop s.size = [] := List.drop_eq_nil_of_le (by rw [← size_eq]; exact Nat.le_refl _)
    rw [hd, chars_nil]
    cases st with
    | none => simp [spansFromP, closeSpans, openPiece, fieldsC, fin]
    | some a =>
      have := pieceU_ne s.data.toList a s.size (hst a rfl) (by rw [← size_eq]; exact Nat.le_refl _)
      simp [spansFromP, closeSpans, openPiece, fieldsC, fin, this]
  | f + 1, pos, st, acc, h, hp, hst => by
    by_cases hlt : pos < s.size
    · have hne : s.data.toList.drop pos ≠ [] := by
        intro h0
        have := congrArg List.length h0
        rw [List.length_drop, ← size_eq] at this
        simp at this
        omega
      have hw := width_pos s pos
      have hwn : pos + (Utf8.decode s pos).2 ≤ s.size := by
        have := decodeN_le_n' (s.size - pos) (s.get! pos).toNat (s.get! (pos + 1)).toNat (s.get! (pos + 2)).toNat (s.get! (pos + 3)).toNat (by omega)
        rw [← decode_at] at this
        omega
      rw [chars_cons hne]
      simp only [fieldsC, spansFromP, if_pos hlt, decodeL_drop, List.drop_drop]
      cases hsp : p (Utf8.decode s pos).1 with
      | true =>
        simp only [if_true]
        cases st with
        | none =>
          have ih := spansP_eq p s f (pos + (Utf8.decode s pos).2) none acc (by omega) hwn (fun a h => by cases h)
          simpa [openPiece, fin] using ih
        | some a =>
          have hpn := pieceU_ne s.data.toList a pos (hst a rfl) (by rw [← size_eq]; omega)
          have ih := spansP_eq p s f (pos + (Utf8.decode s pos).2) none (acc ++ [(a, pos)]) (by omega) hwn (fun a h => by cases h)
          simpa [openPiece, fin, hpn] using ih
      | false =>
        simp only [Bool.false_eq_true, if_false]
        cases st with
        | none =>
          have ih := spansP_eq p s f (pos + (Utf8.decode s pos).2) (some pos) acc (by omega) hwn (fun a h => by cases h; omega)
          have e : ([] : List UInt8) ++ (s.data.toList.drop pos).take (Utf8.decode s pos).2 = pieceU s.data.toList pos (pos + (Utf8.decode s pos).2) := by
            unfold pieceU
            rw [List.nil_append, Nat.add_sub_cancel_left]
          simp only [openPiece] at ih ⊢
          rw [e]
          exact ih
        | some a =>
          have ih := spansP_eq p s f (pos + (Utf8.decode s pos).2) (some a) acc (by omega) hwn (fun b h => by cases h; have := hst a rfl; omega)
          simp only [openPiece] at ih ⊢
          rw [pieceU_grow _ _ _ _ (Nat.le_of_lt (hst a rfl))]
          exact ih
    · obtain rfl : pos = s.size := by omega
      have hd : s.data.toList.drop s.size = [] := List.drop_eq_nil_of_le (by rw [← size_eq]; exact Nat.le_refl _)
      rw [hd, chars_nil, spansFromP_end p s _ _ _ _ hlt]
      cases st with
      | none => simp [closeSpans, openPiece, fieldsC, fin]
      | some a =>
        have := pieceU_ne s.data.toList a s.size (hst a rfl) (by rw [← size_eq]; exact Nat.le_refl _)
        simp [closeSpans, openPiece, fieldsC, fin, this]

/-- The pieces, as bytes. -/
def fieldsL (p : Nat → Bool) (l : List UInt8) : List (List UInt8) := fieldsC p (chars l) []
theorem fields_eq (p : Nat → Bool) (s : ByteArray) : (goFieldsP p s).map (·.data.toList) = fieldsL p s.data.toList := by
  have h := spansP_eq p s s.size 0 none [] (by omega) (Nat.zero_le _) (fun a h => by cases h)
  simp only [List.map_nil, List.nil_append, openPiece, List.drop_zero] at h
  unfold fieldsL goFieldsP spansOfP
  rw [h, List.map_map]
  congr 1
  funext x
  simp [pieceU]
def ba (l : List UInt8) : ByteArray := ⟨l.toArray⟩
theorem ba_data (s : ByteArray) : ba s.data.toList = s := rfl
theorem fields_ba (p : Nat → Bool) (s : ByteArray) : goFieldsP p s = (fieldsL p s.data.toList).map ba := by
  rw [← fields_eq, List.map_map]
  have : (ba ∘ fun x : ByteArray => x.data.toList) = id := by funext x; exact ba_data x
  rw [this, List.map_id]
theorem fields_len (p : Nat → Bool) (s : ByteArray) : (goFieldsP p s).length ≤ s.size := by
  rw [fields_ba, List.length_map, size_eq]
  have h1 := fieldsC_len p (chars s.data.toList) []
  have h2 := chars_len s.data.toList
  have h4 : (fin []).length = 0 := rfl
  unfold fieldsL
  omega
/-- Classes that agree at the code points that a decoder can hand out make the same pieces. -/
theorem fieldsC_congr {p q : Nat → Bool} : ∀ (cs : List Chunk) (cur : List UInt8), (∀ c ∈ cs, p c.1 = q c.1) → fieldsC p cs cur = fieldsC q cs cur
  | [], _, _ => rfl
  | c :: cs, cur, h => by
    unfold fieldsC
    rw [h c (List.mem_cons_self ..), fieldsC_congr cs [] fun x hx => h x (List.mem_cons_of_mem _ hx), fieldsC_congr cs (cur ++ c.2) fun x hx => h x (List.mem_cons_of_mem _ hx)]
theorem chars_rune (l : List UInt8) : ∀ c ∈ chars l, c.1 ≤ 1114111 := by
  induction l using chars_ind with
  | nil => intro c hc; cases hc
  | cons l h ih =>
    intro c hc
    rw [chars_cons h] at hc
    rcases List.mem_cons.1 hc with rfl | hc
    · exact decodeL_rune l
    · exact ih c hc
theorem fields_congr {p q : Nat → Bool} (h : ∀ r, r ≤ 1114111 → p r = q r) (s : ByteArray) : goFieldsP p s = goFieldsP q s := by
  rw [fields_ba, fields_ba]
  unfold fieldsL
  rw [fieldsC_congr _ _ fun c hc => h _ (chars_rune _ c hc)]
end Go.Proofs.YtchkjdopoanjdaaDoor.plain
