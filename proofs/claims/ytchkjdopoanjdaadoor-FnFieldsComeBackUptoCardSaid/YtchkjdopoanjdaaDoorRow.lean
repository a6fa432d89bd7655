/-
  A []string of the call's own, and what keeps it: plain lemmas on worlds.
-/
import Derived.Test.YtchkjdopoanjdaaDoorProg
import Derived.WalkKit
import Derived.Laws.AppendOwn
import Derived.Laws.OwnMore
import Derived.Below
import Derived.Lib.Hide
namespace Go.Proofs.YtchkjdopoanjdaaDoor.iters
open Go.RowKit
set_option linter.unusedVariables false

/-- The first 'most' of a list, if most is from 1 on and below its length. -/
def seenL {α : Type} (xs : List α) (most : Int) : List α := if 1 ≤ most ∧ most < xs.length then xs.take most.toNat else xs
/-- A []string of the call's own. -/
def StrRow (W : World) (B : Nat) (v : Value) (xs : List ByteArray) : Prop := W.ownsRow B 9 1 v xs.length (xs.map Value.string)

/-- The call returns such a row in new memory, and nothing that was there has changed. -/
def StrPost (w : World) (xs : List ByteArray) (e : Ending) (w' : World) : Prop := ∃ v, e = .returned v ∧ StrRow w' w.heap.size v xs ∧ Below w.heap.size w w'
theorem StrRow.base {W : World} {B B' : Nat} {v : Value} {xs : List ByteArray} (h : StrRow W B v xs) (hB : B' ≤ B) : StrRow W B' v xs := by
  refine ⟨h.1, ?_⟩
  rcases h.2 with h | ⟨g, cap, cur, hv, hb, r⟩
  · exact .inl h
  · exact .inr ⟨g, cap, cur, hv, by omega, r⟩

theorem infoS : (Tryd.prog.info? 9).map (fun i => (i.zero, i.size, i.bytes)) = some (some (.string ⟨#[]⟩), 1, 16) := by kernel_rfl

theorem StrRow.form {W : World} {B : Nat} {v : Value} {xs : List ByteArray} (h : StrRow W B v xs) :
    (v = .slice none 0 0 ∧ xs = []) ∨ ∃ g c, v = .slice (some ⟨g, 0, none⟩) xs.length c ∧ xs.length ≤ c ∧ B ≤ g ∧ g < W.heap.size ∧ ∀ j, j < xs.length → W.cell? ⟨g, 0 + j, none⟩ = some (.string (xs.getD j ByteArray.empty)) := by
  have h0 := h
  rcases h.2 with ⟨rfl, hn⟩ | ⟨g, cap, cur, rfl, hb, hg, hc, _⟩
  · exact .inl ⟨rfl, List.eq_nil_of_length_eq_zero hn⟩
  · refine .inr ⟨g, cap, rfl, hc, hb, (Array.getElem?_eq_some_iff.1 hg).1, fun j hj => ?_⟩
    rw [Nat.zero_add, World.ownsRow.cellAt h0 j (by omega)]
    simp [List.getD, List.getElem?_eq_getElem hj]
theorem StrRow.later {w w' : World} {B : Nat} {v : Value} {xs : List ByteArray} (h : StrRow w B v xs) (hb : Below w.heap.size w w') : StrRow w' B v xs := by
  refine ⟨h.1, ?_⟩
  rcases h.2 with h | ⟨g, cap, cur, hv, hB, hg, r⟩
  · exact .inl h
  · exact .inr ⟨g, cap, cur, hv, hB, (hb.block g (Array.getElem?_eq_some_iff.1 hg).1).trans hg, r⟩
theorem StrRow.empty (w : World) (B : Nat) : StrRow w B (.slice none 0 0) [] := World.ownsRow_nil _ _ _ _

/-- The call hands back a row, in the memory of the one that came in or a part of it. -/
def RowPost (w : World) (B : Nat) (xs : List ByteArray) (e : Ending) (w' : World) : Prop := ∃ v, e = .returned v ∧ StrRow w' B v xs ∧ w = w'
theorem row_snoc {w1 : World} {B : Nat} {v' : Value} {acc : List ByteArray} {x : ByteArray} (h : w1.ownsRow B 9 1 v' (acc.length + 1) (acc.map Value.string ++ [.string x])) : StrRow w1 B v' (acc ++ [x]) := by
  unfold StrRow
  rw [List.length_append, List.map_append]
  exact h

end Go.Proofs.YtchkjdopoanjdaaDoor.iters
