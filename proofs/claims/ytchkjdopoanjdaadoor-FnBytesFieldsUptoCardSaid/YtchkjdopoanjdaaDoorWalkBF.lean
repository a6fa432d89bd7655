/-
  The walk of laws.FnBytesFields: it returns true, for slices of at most 1048576 bytes, where the tables hold what their initialisers lay.
-/
import Derived.Test.YtchkjdopoanjdaaDoorTexts
import Derived.Test.YtchkjdopoanjdaaDoorSpaces
import Derived.Test.YtchkjdopoanjdaaDoorValid
import Derived.Test.YtchkjdopoanjdaaDoorEqual
import Derived.Test.YtchkjdopoanjdaaDoorHeld
import Derived.Test.YtchkjdopoanjdaaDoorWalkFFSeq
namespace Go.Proofs.YtchkjdopoanjdaaDoor.strs
open Go.Shelf Go.RowKit Go.Lib base sets iters runes
set_option linter.unusedVariables false

set_option maxHeartbeats 1000000 in
theorem walkBF (a0 : Option Addr) (l0 c0 : Nat) (z0 : List Int) (w : World) (w0 : IsRow .u8 w a0 l0 c0 z0) (m0 : c0 ≤ 1048576) (tU : U8Tab w) (tB : BsTab w) :
    Calls Tryd.prog 15 #[.slice a0 l0 c0] w fun e w' => e = .returned (.bool true) ∧ Below w.heap.size w w' := by
  obtain ⟨S, hS, hc, hm, hq⟩ := holds_of w0
  subst hS
  have hcm : c0 ≤ 9223372036854775807 := by omega
  have hlen := plain.fields_len isSpaceR S
  have hcv : ∀ W, Below w.heap.size w W → (convert 33 9 (.slice a0 S.size c0)).run Tryd.prog W = .ok (.string S) W := fun W hb => (hq.below hb).conv c0
  have con1 : ∀ W, Calls Tryd.prog 29 #[.string S] W fun e w' => e = .returned (.bool (validB S)) ∧ W = w' := fun W => specValid S W (by omega)
  have con2 : ∀ W, Below w.heap.size w W → Calls Tryd.prog 25 #[.slice a0 S.size c0] W (StrPost W (goFieldsP isSpaceR S)) := fun W hb => implBytesFields (hq.below hb) (by omega) hc hcm (tU.below hb) (tB.below hb)
  have con3 : ∀ W, Calls Tryd.prog 23 #[.string S] W (StrPost W (goFieldsP isSpaceR S)) := fun W => specFields S W (by omega)
  have C1 := Lib.hid con1
  have C2 := Lib.hid con2
  have C3 := Lib.hid con3
  have hB0 : Below w.heap.size w w.drew := (Below.refl _ w).drew
  clear con1 con2 con3 w0 tU tB hq
  generalize goFieldsP isSpaceR S = XS at *
  have hlen2 : XS.length ≤ 140737488351232 := by omega
  have hlen3 : (XS).length ≤ 140737488351232 := hlen2
  have hvb := Lib.hid hlen
  generalize validB S = vb at *
  clear hlen hm hc hcm
  generalize S.size = n at *
  cases vb
  · have hcq : ∀ k : Nat, (convert 33 9 (.slice a0 n c0)).run Tryd.prog (w.drewN k) = .ok (.string S) (w.drewN k) := fun k => hcv _ (iters.below_drewN _ _ _)
    clear hcv
    go_enter Tryd.func15, Tryd.ntmps15
    go_wp2_with fail
    go_quiet ((go_at_call 29; refine Calls.quiet_of_same ((C1.out _).mono fun e w' h => ⟨h.1, h.2.symm⟩)))
    go_wp2
    go_ret
    exact ⟨rfl, iters.below_drewN _ _ _⟩
  · go_enter Tryd.func15, Tryd.ntmps15
    go_wp2_with fail
    go_region_held3 (fun W => Below w.heap.size w W) (first | exact hB0 | assumption) (first | (go_at_call 29; refine (C1.out _).mono ?_; rintro e u0 ⟨rfl, rfl⟩) | (go_at_call 25; refine (C2.out _ ?_).mono ?_; assumption; rintro e u1 ⟨v1, rfl, hr1, hb1⟩; have hk1 : Below w.heap.size w u1 := Below.trans hB0 (hb1.mono (Nat.le_refl _))) | (go_at_call 23; refine (C3.out _).mono ?_; rintro e u2 ⟨v2, rfl, hr2, hb2⟩; have hr1' := hr1.later hb2; have hk2 : Below w.heap.size w u2 := hk1.trans (hb2.mono hk1.size)) | (go_at_call 18; refine (equal_same hr1' hr2 hlen3).mono ?_; rintro e u4 ⟨rfl, hb4⟩; have hk4 : Below w.heap.size w u4 := hk2.trans (hb4.mono hk2.size)))
    go_wp2
    go_ret
    exact ⟨rfl, by assumption⟩
end Go.Proofs.YtchkjdopoanjdaaDoor.strs
