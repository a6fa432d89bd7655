/-
  Plain laws: the spans of the pieces that are still to come, from a place on.
-/
import Derived.Test.YtchkjdopoanjdaaDoorChars
namespace Go.Proofs.YtchkjdopoanjdaaDoor.plain
open Go.Lib
set_option linter.unusedVariables false

def lastS (s : ByteArray) : Option Nat → List (Nat × Nat)
  | some a => [(a, s.size)]
  | none => []
def restS (p : Nat → Bool) (s : ByteArray) : Nat → Nat → Option Nat → List (Nat × Nat)
  | 0, _, st => lastS s st
  | f + 1, pos, st =>
    if pos < s.size then
      (if p (Utf8.decode s pos).1 then
        (match st with
         | some a => (a, pos) :: restS p s f (pos + (Utf8.decode s pos).2) none
         | none => restS p s f (pos + (Utf8.decode s pos).2) none)
       else
        (match st with
         | some a => restS p s f (pos + (Utf8.decode s pos).2) (some a)
         | none => restS p s f (pos + (Utf8.decode s pos).2) (some pos)))
    else lastS s st
theorem rest_eq (p : Nat → Bool) (s : ByteArray) : ∀ (f pos : Nat) (st : Option Nat) (acc : List (Nat × Nat)), closeSpans s (spansFromP p s f pos st acc) = acc ++ restS p s f pos st
  | 0, pos, st, acc => by cases st <;> simp [spansFromP, restS, closeSpans, lastS]
  | f + 1, pos, st, acc => by
    unfold spansFromP restS
    by_cases h : pos < s.size
    · rw [if_pos h, if_pos h]
      cases hp : p (Utf8.decode s pos).1 <;> cases st <;> simp [rest_eq p s f]
    · rw [if_neg h, if_neg h]
      cases st <;> simp [closeSpans, lastS]
theorem rest_start (p : Nat → Bool) (s : ByteArray) : spansOfP p s = restS p s s.size 0 none := by
  unfold spansOfP
  rw [rest_eq]
  rfl
/-- Where an iterator stands: it has yielded pre, is at pos, and a piece is open from st on. -/
def RestAt (p : Nat → Bool) (s : ByteArray) (pre : List (Nat × Nat)) (pos : Nat) (st : Option Nat) : Prop :=
  pos ≤ s.size ∧ (∀ a, st = some a → a < pos) ∧ ∃ f, s.size ≤ pos + f ∧ spansOfP p s = pre ++ restS p s f pos st
theorem RestAt.start (p : Nat → Bool) (s : ByteArray) : RestAt p s [] 0 none := ⟨Nat.zero_le _, (fun a h => by cases h), s.size, by omega, rest_start p s⟩
theorem width_fit (s : ByteArray) (k : Nat) (h : k < s.size) : k + (Utf8.decode s k).2 ≤ s.size := by
  have := decodeN_le_n' (s.size - k) (s.get! k).toNat (s.get! (k + 1)).toNat (s.get! (k + 2)).toNat (s.get! (k + 3)).toNat (by omega)
  rw [← decode_at] at this
  omega
theorem RestAt.sep_some {p : Nat → Bool} {s : ByteArray} {pre : List (Nat × Nat)} {pos a : Nat} (h : RestAt p s pre pos (some a)) (hlt : pos < s.size) (hp : p (Utf8.decode s pos).1 = true) : RestAt p s (pre ++ [(a, pos)]) (pos + (Utf8.decode s pos).2) none := by
  obtain ⟨_, hst, f, hf, he⟩ := h
  have hw := width_pos s pos
  obtain ⟨f', rfl⟩ : ∃ f', f = f' + 1 := ⟨f - 1, by omega⟩
  refine ⟨width_fit s pos hlt, (fun a h => by cases h), f', by omega, ?_⟩
  rw [he, restS, if_pos hlt, if_pos hp]
  simp
theorem RestAt.sep_none {p : Nat → Bool} {s : ByteArray} {pre : List (Nat × Nat)} {pos : Nat} (h : RestAt p s pre pos none) (hlt : pos < s.size) (hp : p (Utf8.decode s pos).1 = true) : RestAt p s pre (pos + (Utf8.decode s pos).2) none := by
  obtain ⟨_, hst, f, hf, he⟩ := h
  have hw := width_pos s pos
  obtain ⟨f', rfl⟩ : ∃ f', f = f' + 1 := ⟨f - 1, by omega⟩
  refine ⟨width_fit s pos hlt, (fun a h => by cases h), f', by omega, ?_⟩
  rw [he, restS, if_pos hlt, if_pos hp]
theorem RestAt.in_none {p : Nat → Bool} {s : ByteArray} {pre : List (Nat × Nat)} {pos : Nat} (h : RestAt p s pre pos none) (hlt : pos < s.size) (hp : p (Utf8.decode s pos).1 = false) : RestAt p s pre (pos + (Utf8.decode s pos).2) (some pos) := by
  obtain ⟨_, hst, f, hf, he⟩ := h
  have hw := width_pos s pos
  obtain ⟨f', rfl⟩ : ∃ f', f = f' + 1 := ⟨f - 1, by omega⟩
  refine ⟨width_fit s pos hlt, (fun a h => by cases h; omega), f', by omega, ?_⟩
  rw [he, restS, if_pos hlt, if_neg (by rw [hp]; simp)]
theorem RestAt.in_some {p : Nat → Bool} {s : ByteArray} {pre : List (Nat × Nat)} {pos a : Nat} (h : RestAt p s pre pos (some a)) (hlt : pos < s.size) (hp : p (Utf8.decode s pos).1 = false) : RestAt p s pre (pos + (Utf8.decode s pos).2) (some a) := by
  obtain ⟨_, hst, f, hf, he⟩ := h
  have hw := width_pos s pos
  obtain ⟨f', rfl⟩ : ∃ f', f = f' + 1 := ⟨f - 1, by omega⟩
  refine ⟨width_fit s pos hlt, (fun b h => by cases h; have := hst a rfl; omega), f', by omega, ?_⟩
  rw [he, restS, if_pos hlt, if_neg (by rw [hp]; simp)]
theorem restS_end (p : Nat → Bool) (s : ByteArray) (f pos : Nat) (st : Option Nat) (h : ¬ pos < s.size) : restS p s f pos st = lastS s st := by
  cases f with
  | zero => rfl
  | succ f => cases st <;> simp [restS, h]
theorem RestAt.last_some {p : Nat → Bool} {s : ByteArray} {pre : List (Nat × Nat)} {pos a : Nat} (h : RestAt p s pre pos (some a)) (hlt : ¬ pos < s.size) : spansOfP p s = pre ++ [(a, s.size)] := by
  obtain ⟨_, _, f, _, he⟩ := h
  rw [he, restS_end p s f pos _ hlt]
  rfl
theorem RestAt.last_none {p : Nat → Bool} {s : ByteArray} {pre : List (Nat × Nat)} {pos : Nat} (h : RestAt p s pre pos none) (hlt : ¬ pos < s.size) : spansOfP p s = pre := by
  obtain ⟨_, _, f, _, he⟩ := h
  rw [he, restS_end p s f pos _ hlt]
  simp [lastS]
/-- The piece that is about to be yielded is the next one. -/
theorem RestAt.next {p : Nat → Bool} {s : ByteArray} {pre : List (Nat × Nat)} {pos a : Nat} (h : RestAt p s pre pos (some a)) (hlt : pos < s.size) (hp : p (Utf8.decode s pos).1 = true) : pre ++ [(a, pos)] <+: spansOfP p s := by
  obtain ⟨_, _, f, _, he⟩ := h.sep_some hlt hp
  exact ⟨_, he.symm⟩
theorem ascii_at (s : ByteArray) (k : Nat) (h : k < s.size) (hb : (s.get! k).toNat < 128) : Utf8.decode s k = ((s.get! k).toNat, 1) := by
  rw [decode_at, decodeN_ascii _ _ _ _ _ hb]
end Go.Proofs.YtchkjdopoanjdaaDoor.plain
