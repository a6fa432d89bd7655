/-
  The walk of laws.FnFields: it returns true, for strings of at most 1048576 bytes, where the tables hold what their initialisers lay.
-/
import Derived.Test.YtchkjdopoanjdaaDoorSpaces
import Derived.Test.YtchkjdopoanjdaaDoorValid
import Derived.Test.YtchkjdopoanjdaaDoorEqual
namespace Go.Proofs.YtchkjdopoanjdaaDoor.strs
open Go.Shelf Go.RowKit Go.Lib base sets iters runes
set_option linter.unusedVariables false

set_option maxHeartbeats 1000000 in
theorem walkFields (a0 : ByteArray) (w : World) (m0 : a0.size ≤ 1048576) (hS : SpTab w) :
    Calls Tryd.prog 11 #[.string a0] w fun e w' => e = .returned (.bool true) ∧ Below w.heap.size w w' := by
  have hlen := plain.fields_len isSpaceR a0
  have con1 := specValid a0 w (by omega)
  have con2 := implFields a0 w (by omega) hS
  have con3 : ∀ W, Calls Tryd.prog 23 #[.string a0] W (StrPost W (goFieldsP isSpaceR a0)) := fun W => specFields a0 W (by omega)
  have C3 := Lib.hid con3
  clear con3 hS
  generalize goFieldsP isSpaceR a0 = XS at *
  generalize validB a0 = vb at *
  cases vb
  · go_enter Tryd.func11, Tryd.ntmps11
    go_wp2_with fail
    refine con1.mono ?_
    rintro e w1 ⟨rfl, rfl⟩
    go_wp2
    go_ret
    exact ⟨rfl, Below.refl _ _⟩
  · go_enter Tryd.func11, Tryd.ntmps11
    go_wp2_with fail
    refine con1.mono ?_
    rintro e w1 ⟨rfl, rfl⟩
    go_wp2_with fail
    refine con2.mono ?_
    rintro e u1 ⟨v1, rfl, hr1, hb1⟩
    go_wp2_with fail
    refine (C3.out u1).mono ?_
    rintro e u2 ⟨v2, rfl, hr2, hb2⟩
    have k2 := hb1.trans (hb2.mono hb1.size)
    have hr1' := hr1.later hb2
    go_wp2_with fail
    refine (equal_same hr1' hr2 (by omega)).mono ?_
    rintro e u3 ⟨rfl, hb3⟩
    have k3 := k2.trans (hb3.mono k2.size)
    go_wp2
    go_ret
    exact ⟨rfl, k3⟩
end Go.Proofs.YtchkjdopoanjdaaDoor.strs
