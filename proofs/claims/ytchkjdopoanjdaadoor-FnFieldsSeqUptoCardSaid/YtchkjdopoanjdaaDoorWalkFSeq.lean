/-
  The walk of laws.FnFieldsSeq: it returns true, for strings of at most 1048576 bytes, where the tables hold what their initialisers lay.
-/
import Derived.Test.YtchkjdopoanjdaaDoorSeqF
import Derived.Test.YtchkjdopoanjdaaDoorSpaces
import Derived.Test.YtchkjdopoanjdaaDoorValid
import Derived.Test.YtchkjdopoanjdaaDoorEqual
import Derived.Test.YtchkjdopoanjdaaDoorSpecSeen
namespace Go.Proofs.YtchkjdopoanjdaaDoor.strs
open Go.Shelf Go.RowKit Go.Lib base sets iters runes
set_option linter.unusedVariables false

theorem seenL_le {α : Type} (xs : List α) (most : Int) : (seenL xs most).length ≤ xs.length := by
  unfold seenL
  split
  · rw [List.length_take]; omega
  · exact Nat.le_refl _

set_option maxHeartbeats 1000000 in
theorem walkFSeq (a0 : ByteArray) (a1 : Int) (w : World) (m0 : a0.size ≤ 1048576) (w1 : (Lit.int .i64 a1).wf = true) (hS : SpTab w) (hU : U8Tab w) :
    Calls Tryd.prog 9 #[.string a0, .int .i64 a1] w fun e w' => e = .returned (.bool true) ∧ Below w.heap.size w w' := by
  have hlen := plain.fields_len isSpaceR a0
  have hlen2 := seenL_le (goFieldsP isSpaceR a0) a1
  have con1 := specValid a0 w (by omega)
  have con2 := implFieldsSeq a0 (by omega) a1 w hS hU
  have con3 : ∀ W, Calls Tryd.prog 23 #[.string a0] W (StrPost W (goFieldsP isSpaceR a0)) := fun W => specFields a0 W (by omega)
  have C3 := Lib.hid con3
  clear con3 hS hU w1
  generalize goFieldsP isSpaceR a0 = XS at *
  generalize validB a0 = vb at *
  cases vb
  · go_enter Tryd.func9, Tryd.ntmps9
    go_wp2_with fail
    refine con1.mono ?_
    rintro e w1 ⟨rfl, rfl⟩
    go_wp2
    go_ret
    exact ⟨rfl, Below.refl _ _⟩
  · go_enter Tryd.func9, Tryd.ntmps9
    go_wp2_with fail
    refine con1.mono ?_
    rintro e w1 ⟨rfl, rfl⟩
    go_wp2_with fail
    refine con2.mono ?_
    rintro e u1 ⟨v1, rfl, hr1, hb1⟩
    go_wp2_with fail
    refine (C3.out u1).mono ?_
    rintro e u2 ⟨v2, rfl, hr2, hb2⟩
    have k2 := hb1.trans (hb2.mono hb1.size)
    have hr1' := hr1.later hb2
    go_wp2_with fail
    refine (specSeen hr2 a1 (by omega)).mono ?_
    rintro e u3 ⟨v3, rfl, hr3, rfl⟩
    go_wp2_with fail
    refine (equal_same hr1' hr3 (by omega)).mono ?_
    rintro e u3 ⟨rfl, hb3⟩
    have k3 := k2.trans (hb3.mono k2.size)
    go_wp2
    go_ret
    exact ⟨rfl, k3⟩
end Go.Proofs.YtchkjdopoanjdaaDoor.strs
