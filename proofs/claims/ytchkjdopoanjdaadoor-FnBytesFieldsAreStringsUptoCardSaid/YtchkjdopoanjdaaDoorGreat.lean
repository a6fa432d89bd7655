/-
  How the two laws over strings and bytes begin: '[]byte(s)' behind the box of the class, and what is kept of both.
-/
import Derived.Test.YtchkjdopoanjdaaDoorTexts
import Derived.Test.YtchkjdopoanjdaaDoorSeqBF
import Derived.Test.YtchkjdopoanjdaaDoorWalkIters
namespace Go.Proofs.YtchkjdopoanjdaaDoor.strs
open Go.Shelf Go.RowKit Go.Lib base sets iters runes
set_option linter.unusedVariables false

theorem start_bytes (w : World) (o : Obj) (s : ByteArray) (hs : s.size ≤ 1048576) : ∃ (Wb : World) (cp : Nat), (convert 9 33 (.string s)).run Tryd.prog (w.alloc o) = .ok (.slice (some ⟨w.heap.size + 1, 0, none⟩) s.size cp) Wb ∧ Below (w.heap.size + 1) (w.alloc o) Wb ∧ Holds Wb (some ⟨w.heap.size + 1, 0, none⟩) s ∧ s.size ≤ cp ∧ cp ≤ 9223372036854775807 := by
  have kb := Lib.run_convert_string_bytes (P := Tryd.prog) (w.alloc o) 9 33 5 s Tryd.underlying9 Tryd.underlying33 Tryd.underlying5
  have hB := bytesWorld_bel (w.alloc o) s
  have hH := bytes_of (w.alloc o) s
  rw [World.size_alloc] at kb hB hH
  exact ⟨_, _, kb, hB, hH, grownCap_ge _ s.size 0 5, grownCap_le_maxLen _ s.size 0 5 (by unfold maxLen; omega)⟩
theorem keepT {w Wb W : World} {x y : Value} {t : TypeId} (h0 : Below (w.heap.size + 1) (w.alloc (.cells #[x, y] t)) Wb) (h : Below Wb.heap.size Wb W) : Below Wb.heap.size Wb W ∧ W.cell? ⟨w.heap.size, 0, none⟩ = some x ∧ W.cell? ⟨w.heap.size, 1, none⟩ = some y :=
  ⟨h, (keepS (h0.trans (h.mono (by have := h0.size; rw [World.size_alloc] at this; exact this)))).2⟩
end Go.Proofs.YtchkjdopoanjdaaDoor.strs
