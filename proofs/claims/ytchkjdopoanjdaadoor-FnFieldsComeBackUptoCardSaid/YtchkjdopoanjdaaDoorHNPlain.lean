/-
  Plain laws for the pieces of strings.Fields: each is a piece by itself, and the lengths of the pieces and of the white space add up. And: what a slice of strings reads as, nil or not.
-/
import Derived.Test.YtchkjdopoanjdaaDoorAppend
import Derived.Test.YtchkjdopoanjdaaDoorSpaces
import Derived.Test.YtchkjdopoanjdaaDoorImplFF
namespace Go.Proofs.YtchkjdopoanjdaaDoor.strs
open Go.Shelf Go.RowKit Go.Lib base sets iters plain
set_option linter.unusedVariables false

theorem space_fffd : isSpaceR 65533 = false := by decide
theorem ba_list (l : List UInt8) : (ba l).data.toList = l := rfl
theorem ba_size (l : List UInt8) : (ba l).size = l.length := rfl
theorem piece_of {s x : ByteArray} (h : x ∈ goFieldsP isSpaceR s) : goFieldsP isSpaceR x = [x] ∧ x.data.toList ≠ [] ∧ Whole isSpaceR x.data.toList := by
  rw [fields_ba] at h
  obtain ⟨l, hl, rfl⟩ := List.mem_map.1 h
  have hw := fields_whole space_fffd s.data.toList l hl
  refine ⟨?_, hw.1, hw⟩
  rw [fields_ba, ba_list, hw.one]
  rfl

/-- The lengths. -/
def sizes (xs : List ByteArray) : Nat := (xs.map ByteArray.size).sum
theorem sizes_fields (p : Nat → Bool) (s : ByteArray) : sizes (goFieldsP p s) = total (fieldsL p s.data.toList) := by
  unfold sizes total
  rw [fields_ba, List.map_map]
  rfl
theorem cls_others (r : Nat) : clsP (spaces.take 25) true r = !isSpaceR r := by
  rw [← cls_spaces r]
  unfold clsP hasI
  rw [show spaces.take 25 = spaces from rfl]
  cases spaces.contains (r : Int) <;> rfl
theorem sizes_all (s : ByteArray) : sizes (goFieldsP isSpaceR s) + sizes (goFieldsP (clsP (spaces.take 25) true) s) = s.size := by
  rw [sizes_fields, sizes_fields, total_all cls_others, ← Lib.size_eq]
theorem sizes_next (xs : List ByteArray) (k : Nat) (hk : k < xs.length) : sizes (xs.take (k + 1)) = sizes (xs.take k) + (xs.getD k ByteArray.empty).size := by
  unfold sizes
  rw [List.take_succ_eq_append_getElem hk, List.map_append, List.sum_append]
  simp [List.getD, List.getElem?_eq_getElem hk]
theorem sizes_take (xs : List ByteArray) (k : Nat) : sizes (xs.take k) ≤ sizes xs := by
  have h : sizes xs = sizes (xs.take k) + sizes (xs.drop k) := by
    unfold sizes
    rw [← List.sum_append, ← List.map_append, List.take_append_drop]
  omega
theorem getD_mem {xs : List ByteArray} {k : Nat} (hk : k < xs.length) : xs.getD k ByteArray.empty ∈ xs := by
  simp [List.getD, List.getElem?_eq_getElem hk]

/-- What a []string reads as, now and later. -/
theorem cells_with {w : World} {B : Nat} {v : Value} {xs : List ByteArray} (h : StrRow w B v xs) : ∃ a c, v = .slice a xs.length c ∧ ∀ V, Below w.heap.size w V → ∀ k, k < xs.length → ∃ g, a = some ⟨g, 0, none⟩ ∧ V.cell? ⟨g, k, none⟩ = some (.string (xs.getD k ByteArray.empty)) := by
  rcases h.form with ⟨rfl, rfl⟩ | ⟨g, c, rfl, _, _, _, hc⟩
  · exact ⟨_, _, rfl, fun V _ k hk => by simp at hk⟩
  · refine ⟨_, _, rfl, fun V hV k hk => ⟨g, rfl, ?_⟩⟩
    have := hc k hk
    rw [Nat.zero_add] at this
    rw [hV.cell (p := ⟨g, k, none⟩) (World.block_lt_of_cell? w _ this)]
    exact this
/-- A []string of one string. -/
theorem one_row (u : World) (x : ByteArray) : StrRow (u.alloc (.cells #[.string x] 9)) 0 (.slice (some ⟨u.heap.size, 0, none⟩) 1 1) [x] := by
  have h := World.ownsRow_lit (base := 0) (e := 9) (size := 1) u #[.string x] 1 (Nat.zero_le _) (by unfold maxLen; omega) (by simp)
  simpa [StrRow] using h
end Go.Proofs.YtchkjdopoanjdaaDoor.strs
