/-
  Helpers for regions that draw their order: what is kept of the box that a struct argument lies in; posts that carry the frame.
-/
import Derived.Test.YtchkjdopoanjdaaDoorRow
import Derived.Deep.RegionHeld3
import Derived.Deep.QuietTactic
import Derived.BigQuiet
namespace Go.Proofs.YtchkjdopoanjdaaDoor.iters
open Go.RowKit Go.Lib
set_option linter.unusedVariables false

theorem size_box (w : World) (x y : Value) (t : TypeId) : (w.alloc (.cells #[x, y] t)).heap.size = w.heap.size + 1 := World.size_alloc ..
theorem keepS {w W : World} {x y : Value} {t : TypeId} (h : Below (w.heap.size + 1) (w.alloc (.cells #[x, y] t)) W) :
    Below (w.heap.size + 1) (w.alloc (.cells #[x, y] t)) W ∧ W.cell? ⟨w.heap.size, 0, none⟩ = some x ∧ W.cell? ⟨w.heap.size, 1, none⟩ = some y := by
  refine ⟨h, ?_, ?_⟩
  · rw [h.cell (p := ⟨w.heap.size, 0, none⟩) (Nat.lt_succ_self _)]; exact World.cell?_alloc_new ..
  · rw [h.cell (p := ⟨w.heap.size, 1, none⟩) (Nat.lt_succ_self _)]; exact World.cell?_alloc_new ..

/-- A new row, and nothing below B is written, from the world wb on. -/
def StrKept (B : Nat) (wb W : World) (xs : List ByteArray) (e : Ending) (w' : World) : Prop := ∃ v, e = .returned v ∧ StrRow w' 0 v xs ∧ Below W.heap.size W w' ∧ Below B wb w'
theorem strKept {P : Program} {f : Nat} {ar : Array Value} {B : Nat} {wb W : World} {xs : List ByteArray} (h : Calls P f ar W (StrPost W xs)) (hb : Below B wb W) (hB : B ≤ wb.heap.size) : Calls P f ar W (StrKept B wb W xs) :=
  h.mono fun e w' ⟨v, he, hr, hk⟩ => ⟨v, he, hr.base (Nat.zero_le _), hk, hb.trans (hk.mono (Nat.le_trans hB hb.size))⟩
theorem below_drewN (B : Nat) (w : World) : ∀ n, Below B w (w.drewN n) := fun n => ⟨rfl, rfl, rfl, Nat.le_refl _, fun _ _ => rfl⟩
end Go.Proofs.YtchkjdopoanjdaaDoor.iters
