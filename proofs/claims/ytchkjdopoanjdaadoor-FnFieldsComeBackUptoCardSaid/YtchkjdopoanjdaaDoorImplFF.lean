/-
  The contract of impl.FieldsFunc: a new slice of the pieces without code points of the class.
-/
import Derived.Test.YtchkjdopoanjdaaDoorFieldsFunc
import Derived.Test.YtchkjdopoanjdaaDoorSpecFF
namespace Go.Proofs.YtchkjdopoanjdaaDoor.strs
open Go.Shelf Go.RowKit Go.Lib base sets iters
set_option linter.unusedVariables false

theorem below_box (w : World) (v : Obj) : Below w.heap.size w (w.alloc v) := (Below.refl _ w).alloc (Nat.le_refl _) _

theorem boundClass {w w1 : World} {a : Option Addr} {l c : Nat} {zs : List Int} (h : IsRow .i32 w a l c zs) (hB : Below w.heap.size w w1) (neg : Bool) : BoundPred (.agg #[.slice a l c, .bool neg]) (clsP (zs.take l) neg) w1 := by
  intro W x hx hW
  have h2 : IsRow .i32 W a l c zs := row_below (row_below h hB) hW
  refine (classHas h2 neg (x : Int)).mono fun e w' ⟨he, hw⟩ => ?_
  subst hw
  exact ⟨he, below_box W _⟩

set_option maxHeartbeats 1000000 in
theorem implFieldsFunc {w : World} {a : Option Addr} {l c : Nat} {zs : List Int} (h : IsRow .i32 w a l c zs) (neg : Bool) (s : ByteArray) (hs : s.size ≤ 4294967296) :
    Calls Tryd.prog 22 #[.string s, .agg #[.slice a l c, .bool neg]] w (StrPost w (Lib.goFieldsP (clsP (zs.take l) neg) s)) := by
  have hB := below_box w (.cells #[.slice a l c, .bool neg] 24)
  have con := fieldsFunc_bound (.agg #[.slice a l c, .bool neg]) (clsP (zs.take l) neg) s _ hs (boundClass h hB neg)
  clear h
  go_enter Tryd.func22, Tryd.ntmps22
  go_wp2_with fail
  refine con.mono ?_
  rintro e w' ⟨A, rfl, hA, hrow, hb⟩
  have P : StrPost w (Lib.goFieldsP (clsP (zs.take l) neg) s) (.returned (.slice (some ⟨A, 0, none⟩) (Lib.goFieldsP (clsP (zs.take l) neg) s).length (Lib.goFieldsP (clsP (zs.take l) neg) s).length)) w' :=
    ⟨_, rfl, StrRow.base (B := (w.alloc (.cells #[.slice a l c, .bool neg] 24)).heap.size) hrow hB.size, Below.trans hB (hb.mono hB.size)⟩
  clear hA hrow hb con hB
  generalize (Lib.goFieldsP (clsP (zs.take l) neg) s).length = n at P ⊢
  go_wp2
  go_ret
  exact P
end Go.Proofs.YtchkjdopoanjdaaDoor.strs
