/-
  slices.Equal of two []string values that hold the same strings is true.
-/
import Derived.Test.YtchkjdopoanjdaaDoorRow
import Derived.Test.YtchkjdopoanjdaaDoorShelf
namespace Go.Proofs.YtchkjdopoanjdaaDoor.iters
open Go.RowKit
set_option linter.unusedVariables false

theorem equal_same {B1 B2 : Nat} {v1 v2 : Value} {xs : List ByteArray} {w : World} (h1 : StrRow w B1 v1 xs) (h2 : StrRow w B2 v2 xs) (hlen : xs.length ≤ 140737488351232) :
    Calls Tryd.prog 18 #[v1, v2] w fun e w' => e = .returned (.bool true) ∧ Below w.heap.size w w' := by
  by_cases hx : xs = []
  · subst hx
    obtain ⟨a1, c1, rfl⟩ : ∃ a c, v1 = .slice a 0 c := by
      rcases h1.form with ⟨rfl, _⟩ | ⟨g, c, rfl, _⟩ <;> exact ⟨_, _, rfl⟩
    obtain ⟨a2, c2, rfl⟩ : ∃ a c, v2 = .slice a 0 c := by
      rcases h2.form with ⟨rfl, _⟩ | ⟨g, c, rfl, _⟩ <;> exact ⟨_, _, rfl⟩
    refine (Tryd.slices_Equal_string_empty a1 a2 c1 0 c2 w (by omega)).mono fun e w' ⟨he, hw⟩ => ?_
    subst hw
    exact ⟨he, Below.refl _ _⟩
  · have hp : xs.length ≠ 0 := fun e => hx (List.eq_nil_of_length_eq_zero e)
    rcases h1.form with ⟨_, e⟩ | ⟨g1, c1, rfl, _, _, _, hc1⟩
    · exact absurd e hx
    rcases h2.form with ⟨_, e⟩ | ⟨g2, c2, rfl, _, _, _, hc2⟩
    · exact absurd e hx
    refine (Tryd.slices_Equal_string g1 0 xs.length c1 g2 0 xs.length c2 xs xs w (Nat.le_refl _) (Nat.le_refl _) (by omega) (by omega) hc1 hc2).mono fun e w' ⟨he, q, hw⟩ => ?_
    subst hw
    refine ⟨by rw [he]; simp, ?_⟩
    exact ⟨rfl, rfl, rfl, Nat.le_refl _, fun _ _ => rfl⟩


end Go.Proofs.YtchkjdopoanjdaaDoor.iters
