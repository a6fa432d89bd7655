/-
  The walk of laws.FnFieldsIterators: it returns true, for strings of at most 1048576 bytes, where the tables hold what their initialisers lay.
-/
import Derived.Test.YtchkjdopoanjdaaDoorSeqF
import Derived.Test.YtchkjdopoanjdaaDoorSeqFF
import Derived.Test.YtchkjdopoanjdaaDoorSpaces
import Derived.Test.YtchkjdopoanjdaaDoorEqual
import Derived.Test.YtchkjdopoanjdaaDoorSpecSeen
import Derived.Test.YtchkjdopoanjdaaDoorHeld
namespace Go.Proofs.YtchkjdopoanjdaaDoor.strs
open Go.Shelf Go.RowKit Go.Lib base sets iters runes
set_option linter.unusedVariables false

theorem seenL_le2 {α : Type} (xs : List α) (most : Int) : (seenL xs most).length ≤ xs.length := by
  unfold seenL
  split
  · rw [List.length_take]; omega
  · exact Nat.le_refl _
theorem equal_kept {B B1 B2 : Nat} {v1 v2 : Value} {xs : List ByteArray} {wb W : World} (h1 : StrRow W B1 v1 xs) (h2 : StrRow W B2 v2 xs) (hlen : xs.length ≤ 140737488351232) (hb : Below B wb W) (hB : B ≤ wb.heap.size) :
    Calls Tryd.prog 18 #[v1, v2] W fun e w' => e = .returned (.bool true) ∧ Below W.heap.size W w' ∧ Below B wb w' :=
  (equal_same h1 h2 hlen).mono fun e w' ⟨he, hk⟩ => ⟨he, hk, hb.trans (hk.mono (Nat.le_trans hB hb.size))⟩
theorem cells_at {w : World} {B : Nat} {v : Value} {xs : List ByteArray} (h : StrRow w B v xs) : ∃ a c, v = .slice a xs.length c := by
  rcases h.form with ⟨rfl, rfl⟩ | ⟨g, c, rfl, _⟩
  · exact ⟨_, _, rfl⟩
  · exact ⟨_, _, rfl⟩

set_option maxHeartbeats 4000000 in
theorem walkIterators (a0 : ByteArray) (a1 : Option Addr) (l1 c1 : Nat) (z1 : List Int) (e1 : Bool) (a2 : Int) (w : World) (m0 : a0.size ≤ 1048576) (w1 : IsRow .i32 w a1 l1 c1 z1) (m1 : c1 ≤ 1048576) (w2 : (Lit.int .i64 a2).wf = true) (tS : SpTab w) (tU : U8Tab w) :
    Calls Tryd.prog 3 #[.string a0, .agg #[.slice a1 l1 c1, .bool e1], .int .i64 a2] w fun e w' => e = .returned (.bool true) ∧ Below w.heap.size w w' := by
  have hB := below_box w (.cells #[.slice a1 l1 c1, .bool e1] 24)
  have hz := size_box w (.slice a1 l1 c1) (.bool e1) 24
  have hBB : w.heap.size + 1 ≤ (w.alloc (.cells #[.slice a1 l1 c1, .bool e1] 24)).heap.size := by omega
  have hlen0 := plain.fields_len isSpaceR a0
  have hlen1 := plain.fields_len (clsP (z1.take l1) e1) a0
  have low : ∀ W, Below (w.heap.size + 1) (w.alloc (.cells #[.slice a1 l1 c1, .bool e1] 24)) W → Below w.heap.size w W := fun W h => hB.trans (h.mono (Nat.le_succ _))
  have row : ∀ W, Below (w.heap.size + 1) (w.alloc (.cells #[.slice a1 l1 c1, .bool e1] 24)) W → IsRow .i32 W a1 l1 c1 z1 := fun W h => row_below w1 (low W h)
  have con17 : ∀ W, Below (w.heap.size + 1) (w.alloc (.cells #[.slice a1 l1 c1, .bool e1] 24)) W → Calls Tryd.prog 17 #[.string a0] W (StrKept (w.heap.size + 1) (w.alloc (.cells #[.slice a1 l1 c1, .bool e1] 24)) W (goFieldsP isSpaceR a0)) := fun W h => strKept (implFields a0 W (by omega) (tS.below (low W h))) h hBB
  have con19 : ∀ W, Below (w.heap.size + 1) (w.alloc (.cells #[.slice a1 l1 c1, .bool e1] 24)) W → Calls Tryd.prog 19 #[.string a0, .int .i64 a2] W (StrKept (w.heap.size + 1) (w.alloc (.cells #[.slice a1 l1 c1, .bool e1] 24)) W (seenL (goFieldsP isSpaceR a0) a2)) := fun W h => strKept (implFieldsSeq a0 (by omega) a2 W (tS.below (low W h)) (tU.below (low W h))) h hBB
  have con21 : ∀ W, Below (w.heap.size + 1) (w.alloc (.cells #[.slice a1 l1 c1, .bool e1] 24)) W → Calls Tryd.prog 21 #[.string a0, .agg #[.slice a1 l1 c1, .bool e1], .int .i64 a2] W (StrKept (w.heap.size + 1) (w.alloc (.cells #[.slice a1 l1 c1, .bool e1] 24)) W (seenL (goFieldsP (clsP (z1.take l1) e1) a0) a2)) := fun W h => strKept (implFieldsFuncSeq (row W h) (tU.below (low W h)) e1 a0 (by omega) a2) h hBB
  have con22 : ∀ W, Below (w.heap.size + 1) (w.alloc (.cells #[.slice a1 l1 c1, .bool e1] 24)) W → Calls Tryd.prog 22 #[.string a0, .agg #[.slice a1 l1 c1, .bool e1]] W (StrKept (w.heap.size + 1) (w.alloc (.cells #[.slice a1 l1 c1, .bool e1] 24)) W (goFieldsP (clsP (z1.take l1) e1) a0)) := fun W h => strKept (implFieldsFunc (row W h) e1 a0 (by omega)) h hBB
  have con23 : ∀ W, Below (w.heap.size + 1) (w.alloc (.cells #[.slice a1 l1 c1, .bool e1] 24)) W → Calls Tryd.prog 23 #[.string a0] W (StrKept (w.heap.size + 1) (w.alloc (.cells #[.slice a1 l1 c1, .bool e1] 24)) W (goFieldsP isSpaceR a0)) := fun W h => strKept (specFields a0 W (by omega)) h hBB
  have C17 := Lib.hid con17
  have C19 := Lib.hid con19
  have C21 := Lib.hid con21
  have C22 := Lib.hid con22
  have C23 := Lib.hid con23
  have L := Lib.hid low
  clear con17 con19 con21 con22 con23 row low w1 w2 tS tU hB hz
  generalize goFieldsP (clsP (z1.take l1) e1) a0 = YS at *
  generalize goFieldsP isSpaceR a0 = XS at *
  have hlenX : XS.length ≤ 140737488351232 := by omega
  have hlenY : YS.length ≤ 140737488351232 := by omega
  have hlenXS : (seenL XS a2).length ≤ 140737488351232 := Nat.le_trans (seenL_le2 XS a2) hlenX
  have hlenYS : (seenL YS a2).length ≤ 140737488351232 := Nat.le_trans (seenL_le2 YS a2) hlenY
  have kb : Below (w.heap.size + 1) (w.alloc (.cells #[.slice a1 l1 c1, .bool e1] 24)) (w.alloc (.cells #[.slice a1 l1 c1, .bool e1] 24)) := Below.refl _ _
  rcases Nat.eq_zero_or_pos XS.length with h0 | hpos
  · have hX : XS = [] := List.eq_nil_of_length_eq_zero h0
    subst hX
    go_enter Tryd.func3, Tryd.ntmps3
    go_wp2_with fail
    refine (C17.out _ kb).mono ?_
    rintro e u0 ⟨v7, rfl, rl, b0, k0⟩
    have kd : Below (w.heap.size + 1) (w.alloc (.cells #[.slice a1 l1 c1, .bool e1] 24)) u0.drew := k0.drew
    have rl := rl.later (Below.refl _ u0).drew
    obtain ⟨a7, d7, rfl⟩ := cells_at rl
    go_wp2_with fail
    first | go_region_held3 (fun W => Below (w.heap.size + 1) (w.alloc (.cells #[.slice a1 l1 c1, .bool e1] 24)) W ∧ W.cell? ⟨w.heap.size, 0, none⟩ = some (.slice a1 l1 c1) ∧ W.cell? ⟨w.heap.size, 1, none⟩ = some (.bool e1)) (first | exact keepS kd | exact keepS (by assumption)) (first | (go_at_call 19; refine (C19.out _ kd).mono ?_; rintro e u1 ⟨v12, rfl, r12, b12, k12⟩; have rl := rl.later b12) | (go_at_call 20; refine (specSeen r24 a2 hlenY).mono ?_; rintro e u6 ⟨v26, rfl, r26, rfl⟩) | (go_at_call 20; refine (specSeen rl a2 hlenX).mono ?_; rintro e u2 ⟨v15, rfl, r15, rfl⟩) | (go_at_call 18; refine (equal_kept r21 r26 hlenYS k24 hBB).mono ?_; rintro e u7 ⟨rfl, b27, k27⟩) | (go_at_call 18; refine (equal_kept r12 r15 hlenXS k12 hBB).mono ?_; rintro e u3 ⟨rfl, b16, k16⟩) | (go_at_call 21; refine (C21.out _ k16).mono ?_; rintro e u4 ⟨v21, rfl, r21, b21, k21⟩) | (go_at_call 22; refine (C22.out _ k21).mono ?_; rintro e u5 ⟨v24, rfl, r24, b24, k24⟩; have r21 := r21.later b24) | (go_at_call 23; refine (C23.out _ k27).mono ?_; rintro e u8 ⟨v35, rfl, r35, b35, k35⟩; obtain ⟨a9, d9, rfl⟩ := cells_at r35)) | fail
    go_wp2
    go_ret
    exact ⟨rfl, L.out _ (by assumption)⟩
  · have hp1 : (0 : Int) < (XS.length : Int) := by omega
    have hp2 : decide ((0 : Int) < (XS.length : Int)) = true := decide_eq_true hp1
    go_enter Tryd.func3, Tryd.ntmps3
    go_wp2_with fail
    refine (C17.out _ kb).mono ?_
    rintro e u0 ⟨v7, rfl, rl, b0, k0⟩
    have kd : Below (w.heap.size + 1) (w.alloc (.cells #[.slice a1 l1 c1, .bool e1] 24)) u0.drew := k0.drew
    have rl := rl.later (Below.refl _ u0).drew
    obtain ⟨a7, d7, rfl⟩ := cells_at rl
    go_wp2_with fail
    first | go_region_held (fun W => Below (w.heap.size + 1) (w.alloc (.cells #[.slice a1 l1 c1, .bool e1] 24)) W ∧ W.cell? ⟨w.heap.size, 0, none⟩ = some (.slice a1 l1 c1) ∧ W.cell? ⟨w.heap.size, 1, none⟩ = some (.bool e1)) (first | exact keepS kd | exact keepS (by assumption)) (first | (go_at_call 19; refine (C19.out _ kd).mono ?_; rintro e u1 ⟨v12, rfl, r12, b12, k12⟩; have rl := rl.later b12) | (go_at_call 20; refine (specSeen r24 a2 hlenY).mono ?_; rintro e u6 ⟨v26, rfl, r26, rfl⟩) | (go_at_call 20; refine (specSeen rl a2 hlenX).mono ?_; rintro e u2 ⟨v15, rfl, r15, rfl⟩) | (go_at_call 18; refine (equal_kept r21 r26 hlenYS k24 hBB).mono ?_; rintro e u7 ⟨rfl, b27, k27⟩) | (go_at_call 18; refine (equal_kept r12 r15 hlenXS k12 hBB).mono ?_; rintro e u3 ⟨rfl, b16, k16⟩) | (go_at_call 21; refine (C21.out _ k16).mono ?_; rintro e u4 ⟨v21, rfl, r21, b21, k21⟩) | (go_at_call 22; refine (C22.out _ k21).mono ?_; rintro e u5 ⟨v24, rfl, r24, b24, k24⟩; have r21 := r21.later b24) | (go_at_call 23; refine (C23.out _ k27).mono ?_; rintro e u8 ⟨v35, rfl, r35, b35, k35⟩; obtain ⟨a9, d9, rfl⟩ := cells_at r35)) | fail
    go_wp2
    go_ret
    exact ⟨rfl, L.out _ (by assumption)⟩
end Go.Proofs.YtchkjdopoanjdaaDoor.strs
