/-
  Contracts of impl.Fields, spec.Spaces and spec.Fields: both Fields return the longest pieces without white space.
-/
import Derived.Test.YtchkjdopoanjdaaDoorTabs
import Derived.Test.YtchkjdopoanjdaaDoorSpecFF
import Derived.Test.YtchkjdopoanjdaaDoorChars
import Derived.Shelf.Strings.FieldsAny
namespace Go.Proofs.YtchkjdopoanjdaaDoor.iters
open Go.Shelf Go.RowKit Go.Lib base sets
set_option linter.unusedVariables false

theorem implFields (s : ByteArray) (w : World) (hs : s.size ≤ 4000000000) (hT : SpTab w) : Calls Tryd.prog 17 #[.string s] w (StrPost w (goFieldsP isSpaceR s)) := by
  have con := Tryd.strings_Fields_any s w (by omega) hT.1 hT.2
  rw [← goFields_values, ← goFields_count] at con
  clear hT
  generalize goFieldsP isSpaceR s = XS at *
  go_enter Tryd.func17, Tryd.ntmps17
  go_wp2_with fail
  refine con.mono ?_
  rintro e w' ⟨A, rfl, hA, hrow, hb⟩
  have P : StrPost w XS (.returned (.slice (some ⟨A, 0, none⟩) XS.length XS.length)) w' := ⟨_, rfl, hrow, hb⟩
  clear hA hrow hb con
  generalize XS.length = n at P ⊢
  go_wp2
  go_ret
  exact P

def spaces : List Int := [9, 10, 11, 12, 13, 32, 133, 160, 5760, 8192, 8193, 8194, 8195, 8196, 8197, 8198, 8199, 8200, 8201, 8202, 8232, 8233, 8239, 8287, 12288]
def SpacesPost (w : World) (e : Ending) (w' : World) : Prop := ∃ b, e = .returned (.slice (some ⟨b, 0, none⟩) 25 25) ∧ IsRow .i32 w' (some ⟨b, 0, none⟩) 25 25 spaces ∧ Below w.heap.size w w'

theorem spaces_row (w : World) : SpacesPost w (.returned (.slice (some ⟨w.heap.size, 0, none⟩) 25 25)) (w.alloc (.cells (spaces.map fun z => Value.int .i32 z).toArray 21)) := by
  refine ⟨_, rfl, .inr ⟨_, rfl, Nat.le_refl _, by unfold maxLen; omega, rfl, fun i hi => ?_, ?_⟩, (Below.refl _ w).alloc (Nat.le_refl _) _⟩
  · rw [Go.WideShapes.add_plain, Nat.zero_add, World.cell?_alloc_new]
    have hi' : i < spaces.length := hi
    simp [List.getElem?_eq_getElem hi']
  · decide
theorem specSpaces (w : World) : Calls Tryd.prog 30 #[] w (SpacesPost w) := by
  go_enter Tryd.func30, Tryd.ntmps30
  go_wp2
  go_ret
  exact spaces_row w

theorem cls_spaces (r : Nat) : clsP spaces false r = isSpaceR r := by
  have h1 : clsP spaces false r = true ↔ (r : Int) ∈ spaces := by
    unfold clsP hasI
    cases hc : spaces.contains (r : Int)
    · constructor
      · intro h; cases h
      · intro h; rw [List.contains_iff_mem.2 h] at hc; cases hc
    · exact ⟨fun _ => List.contains_iff_mem.1 hc, fun _ => rfl⟩
  have h2 : isSpaceR r = true ↔ (r : Int) ∈ spaces := by
    unfold isSpaceR
    simp only [Bool.or_eq_true, Bool.and_eq_true, decide_eq_true_eq, beq_iff_eq, spaces, List.mem_cons, List.not_mem_nil, or_false]
    omega
  cases ha : clsP spaces false r <;> cases hb : isSpaceR r
  · rfl
  · rw [h1.2 (h2.1 hb)] at ha; cases ha
  · rw [h2.2 (h1.1 ha)] at hb; cases hb
  · rfl
theorem fields_spaces (s : ByteArray) : goFieldsP (clsP (spaces.take 25) false) s = goFieldsP isSpaceR s := plain.fields_congr (fun r _ => cls_spaces r) s

theorem specFields (s : ByteArray) (w : World) (hs : s.size ≤ 8388608) : Calls Tryd.prog 23 #[.string s] w (StrPost w (goFieldsP isSpaceR s)) := by
  have con := specSpaces w
  have fs := fields_spaces s
  have con2 : ∀ (b : Nat) (w1 : World), IsRow .i32 w1 (some ⟨b, 0, none⟩) 25 25 spaces → Calls Tryd.prog 24 #[.string s, .slice (some ⟨b, 0, none⟩) 25 25, .bool false] w1 (StrPost w1 (goFieldsP isSpaceR s)) := fun b w1 h => by
    rw [← fs]; exact specFieldsFunc h false s hs
  have C2 := Lib.hid con2
  clear con2 fs
  generalize goFieldsP isSpaceR s = XS at *
  go_enter Tryd.func23, Tryd.ntmps23
  go_wp2_with fail
  refine con.mono ?_
  rintro e w1 ⟨b, rfl, hrow, hb⟩
  go_wp2_with fail
  refine (C2.out b w1 hrow).mono ?_
  rintro e w2 ⟨v, rfl, hr, hb2⟩
  have P : StrPost w XS (.returned v) w2 := ⟨_, rfl, hr.base hb.size, hb.trans (hb2.mono hb.size)⟩
  clear hrow hb hr hb2 con
  go_wp2
  go_ret
  exact P
end Go.Proofs.YtchkjdopoanjdaaDoor.iters
