/-
  The walk of laws.FnFieldsFuncSeq: it returns true, for strings of at most 1048576 bytes, where the tables hold what their initialisers lay.
-/
import Derived.Test.YtchkjdopoanjdaaDoorSeqFF
import Derived.Test.YtchkjdopoanjdaaDoorSpecSeen
import Derived.Test.YtchkjdopoanjdaaDoorValid
import Derived.Test.YtchkjdopoanjdaaDoorEqual
import Derived.Test.YtchkjdopoanjdaaDoorChars
import Derived.Test.YtchkjdopoanjdaaDoorHeld
import Derived.Deep.RegionHeld3
import Derived.Deep.QuietTactic
import Derived.BigQuiet
namespace Go.Proofs.YtchkjdopoanjdaaDoor.strs
open Go.Shelf Go.RowKit Go.Lib base sets iters runes
set_option linter.unusedVariables false

theorem seenL_len {α : Type} (xs : List α) (most : Int) : (seenL xs most).length ≤ xs.length := by
  unfold seenL
  split
  · rw [List.length_take]; omega
  · exact Nat.le_refl _

set_option maxHeartbeats 1000000 in
theorem walkFFSeq (a0 : ByteArray) (a1 : Option Addr) (l1 c1 : Nat) (z1 : List Int) (e1 : Bool) (a2 : Int) (w : World) (m0 : a0.size ≤ 1048576) (w1 : IsRow .i32 w a1 l1 c1 z1) (m1 : c1 ≤ 1048576) (w2 : (Lit.int .i64 a2).wf = true) (tU : U8Tab w) :
    Calls Tryd.prog 6 #[.string a0, .agg #[.slice a1 l1 c1, .bool e1], .int .i64 a2] w fun e w' => e = .returned (.bool true) ∧ Below w.heap.size w w' := by
  have hB := below_box w (.cells #[.slice a1 l1 c1, .bool e1] 24)
  have hz := size_box w (.slice a1 l1 c1) (.bool e1) 24
  have hlen := plain.fields_len (clsP (z1.take l1) e1) a0
  have con1 : ∀ W, Calls Tryd.prog 29 #[.string a0] W fun e w' => e = .returned (.bool (validB a0)) ∧ W = w' := fun W => specValid a0 W (by omega)
  have row : ∀ W, Below (w.heap.size + 1) (w.alloc (.cells #[.slice a1 l1 c1, .bool e1] 24)) W → IsRow .i32 W a1 l1 c1 z1 := fun W h => row_below w1 (hB.trans (h.mono (Nat.le_succ _)))
  have con2 : ∀ W, Below (w.heap.size + 1) (w.alloc (.cells #[.slice a1 l1 c1, .bool e1] 24)) W → Calls Tryd.prog 21 #[.string a0, .agg #[.slice a1 l1 c1, .bool e1], .int .i64 a2] W (StrKept (w.heap.size + 1) (w.alloc (.cells #[.slice a1 l1 c1, .bool e1] 24)) W (seenL (Lib.goFieldsP (clsP (z1.take l1) e1) a0) a2)) := fun W h => strKept (implFieldsFuncSeq (row W h) (tU.below (hB.trans (h.mono (Nat.le_succ _)))) e1 a0 (by omega) a2) h (by omega)
  have con3 : ∀ W, Below (w.heap.size + 1) (w.alloc (.cells #[.slice a1 l1 c1, .bool e1] 24)) W → Calls Tryd.prog 24 #[.string a0, .slice a1 l1 c1, .bool e1] W (StrKept (w.heap.size + 1) (w.alloc (.cells #[.slice a1 l1 c1, .bool e1] 24)) W (Lib.goFieldsP (clsP (z1.take l1) e1) a0)) := fun W h => strKept (specFieldsFunc (row W h) e1 a0 (by omega)) h (by omega)
  generalize validB a0 = vb at *
  have C1 := Lib.hid con1
  have C2 := Lib.hid con2
  have C3 := Lib.hid con3
  clear con1 con2 con3 row w1 w2 tU
  generalize Lib.goFieldsP (clsP (z1.take l1) e1) a0 = XS at *
  have hlen2 : XS.length ≤ 140737488351232 := by omega
  have hlen3 : (seenL XS a2).length ≤ 140737488351232 := Nat.le_trans (seenL_len XS a2) hlen2
  have hB0 : Below (w.heap.size + 1) (w.alloc (.cells #[.slice a1 l1 c1, .bool e1] 24)) (w.alloc (.cells #[.slice a1 l1 c1, .bool e1] 24)).drew := (Below.refl _ _).drew
  have fin : ∀ W, Below (w.heap.size + 1) (w.alloc (.cells #[.slice a1 l1 c1, .bool e1] 24)) W → Below w.heap.size w W := fun W h => hB.trans (h.mono (Nat.le_succ _))
  have F := Lib.hid fin
  have HZ := Lib.hid hz
  clear hB hz fin
  cases vb
  · go_enter Tryd.func6, Tryd.ntmps6
    go_wp2_with fail
    go_quiet ((go_at_call 29; refine Calls.quiet_of_same ((C1.out _).mono fun e w' h => ⟨h.1, h.2.symm⟩)))
    go_wp2
    go_ret
    exact ⟨rfl, F.out _ (iters.below_drewN _ _ _)⟩
  · go_enter Tryd.func6, Tryd.ntmps6
    go_wp2_with fail
    go_region_held3 (fun W => Below (w.heap.size + 1) (w.alloc (.cells #[.slice a1 l1 c1, .bool e1] 24)) W ∧ W.cell? ⟨w.heap.size, 0, none⟩ = some (.slice a1 l1 c1) ∧ W.cell? ⟨w.heap.size, 1, none⟩ = some (.bool e1)) (first | exact keepS hB0 | exact keepS (by assumption)) (first | (go_at_call 29; refine (C1.out _).mono ?_; rintro e u1 ⟨rfl, rfl⟩) | (go_at_call 21; refine (C2.out _ (And.left (by assumption))).mono ?_; rintro e u1 ⟨v1, rfl, hr1, hb1, hk1⟩) | (go_at_call 24; refine (C3.out _ (And.left (by assumption))).mono ?_; rintro e u2 ⟨v2, rfl, hr2, hb2, hk2⟩; have hr1' := hr1.later hb2) | (go_at_call 20; refine (specSeen hr2 a2 hlen2).mono ?_; rintro e u3 ⟨v3, rfl, hr3, rfl⟩) | (go_at_call 18; refine (equal_same hr1' hr3 hlen3).mono ?_; rintro e u4 ⟨rfl, hb4⟩; have hk4 : Below (w.heap.size + 1) (w.alloc (.cells #[.slice a1 l1 c1, .bool e1] 24)) u4 := hk2.trans (hb4.mono (Nat.le_trans (Nat.le_of_eq HZ.out.symm) hk2.size))))
    go_wp2
    go_ret
    exact ⟨rfl, F.out _ (by assumption)⟩
end Go.Proofs.YtchkjdopoanjdaaDoor.strs
