/-
  The walk of laws.FnFieldsFuncAndOthers: it returns true, for strings of at most 1048576 bytes.
-/
import Derived.Test.YtchkjdopoanjdaaImplFF
import Derived.Test.YtchkjdopoanjdaaPlainTurns
import Derived.Test.YtchkjdopoanjdaaHeld
import Derived.Test.YtchkjdopoanjdaaRune
namespace Go.Proofs.Ytchkjdopoanjdaa.strs
open Go.Shelf Go.RowKit Go.Lib base sets iters runes
set_option linter.unusedVariables false

set_option maxHeartbeats 2000000 in
theorem walkTurns (a0 : ByteArray) (a1 : Option Addr) (l1 c1 : Nat) (z1 : List Int) (e1 : Bool) (w : World) (m0 : a0.size ≤ 1048576) (w1 : IsRow .i32 w a1 l1 c1 z1) (m1 : c1 ≤ 1048576) :
    Calls Try.prog 4 #[.string a0, .agg #[.slice a1 l1 c1, .bool e1]] w fun e w' => e = .returned (.bool true) ∧ Below w.heap.size w w' := by
  have hB := below_box w (.cells #[.slice a1 l1 c1, .bool e1] 24)
  have hz := size_box w (.slice a1 l1 c1) (.bool e1) 24
  have hlen1 := plain.fields_len (clsP (z1.take l1) e1) a0
  have hlen2 := plain.fields_len (clsP (z1.take l1) (!e1)) a0
  have row : ∀ W, Below (w.heap.size + 1) (w.alloc (.cells #[.slice a1 l1 c1, .bool e1] 24)) W → IsRow .i32 W a1 l1 c1 z1 := fun W h => row_below w1 (hB.trans (h.mono (Nat.le_succ _)))
  have con2 : ∀ W ee, Below (w.heap.size + 1) (w.alloc (.cells #[.slice a1 l1 c1, .bool e1] 24)) W → Calls Try.prog 7 #[.string a0, .agg #[.slice a1 l1 c1, .bool ee]] W (StrKept (w.heap.size + 1) (w.alloc (.cells #[.slice a1 l1 c1, .bool e1] 24)) W (Lib.goFieldsP (clsP (z1.take l1) ee) a0)) := fun W ee h => strKept (implFieldsFunc (row W h) ee a0 (by omega)) h (by omega)
  have con3 : ∀ W r n, Below (w.heap.size + 1) (w.alloc (.cells #[.slice a1 l1 c1, .bool e1] 24)) W → Calls Try.prog 10 #[.slice a1 l1 c1, .int .i32 r] (W.drewN n) fun e w' => e = .returned (.bool (hasI (z1.take l1) false r)) ∧ w' = W.drewN n := fun W r n h => slicesContains (row _ (h.trans (iters.below_drewN _ _ _))) r
  have C2 := Lib.hid con2
  have C3 := Lib.hid con3
  have k0 : Below (w.heap.size + 1) (w.alloc (.cells #[.slice a1 l1 c1, .bool e1] 24)) (w.alloc (.cells #[.slice a1 l1 c1, .bool e1] 24)) := Below.refl _ _
  have fin : ∀ W, Below (w.heap.size + 1) (w.alloc (.cells #[.slice a1 l1 c1, .bool e1] 24)) W → Below w.heap.size w W := fun W h => hB.trans (h.mono (Nat.le_succ _))
  have F := Lib.hid fin
  have hq := plain.clsP_not (z1.take l1) e1
  have hq' : ∀ r, clsP (z1.take l1) e1 r = !clsP (z1.take l1) (!e1) r := fun r => by rw [hq, Bool.not_not]
  clear con2 con3 row w1 hB hz fin
  go_enter Try.func4, Try.ntmps4
  go_wp2_with fail
  refine (C2.out _ e1 k0).mono ?_
  rintro e u1 ⟨v1, rfl, hr1, hb1, k1⟩
  obtain ⟨_, x1, y1⟩ := keepS k1
  go_wp2_with fail
  refine (C2.out _ (!e1) k1).mono ?_
  rintro e u2 ⟨v2, rfl, hr2, hb2, k2⟩
  obtain ⟨_, x2, y2⟩ := keepS k2
  have hr1' := hr1.later hb2
  by_cases h0 : a0.size = 0
  · have f1 := plain.fields_empty (clsP (z1.take l1) e1) h0
    have f2 := plain.fields_empty (clsP (z1.take l1) (!e1)) h0
    rw [f1] at hr1'
    rw [f2] at hr2
    obtain ⟨b1, d1, rfl, _⟩ := hr1'.cellsAt
    obtain ⟨b2, d2, rfl, _⟩ := hr2.cellsAt
    have e2 : a0.toList.isEmpty = true := by
      rw [Lib.toList_data, List.eq_nil_of_length_eq_zero (by rw [← Lib.size_eq]; exact h0 : a0.data.toList.length = 0)]
      rfl
    clear hr1 hr1' hr2 f1 f2 hq hq'
    go_wp2
    go_ret
    exact ⟨rfl, F.out _ k2⟩
  · have e2 : a0.toList.isEmpty = false := by
      rw [Lib.toList_data]
      cases hd : a0.data.toList with
      | nil => exact absurd (by rw [Lib.size_eq, hd]; rfl) h0
      | cons x r => rfl
    have con4 := specRune a0 u2 (by omega) (by omega)
    have t1 : clsP (z1.take l1) e1 (Utf8.decode a0 0).1 = false → _ := plain.turns_eq hq h0
    have t2 : clsP (z1.take l1) (!e1) (Utf8.decode a0 0).1 = false → _ := plain.turns_eq hq' h0
    have ed : clsP (z1.take l1) e1 (Utf8.decode a0 0).1 = (hasI (z1.take l1) false ((Utf8.decode a0 0).1 : Int) != e1) := (plain.hasI_ne _ _ _).symm
    have ee := hq (Utf8.decode a0 0).1
    rw [ed] at t1 ee
    rw [ee] at t2
    clear ed ee hq hq'
    generalize Lib.goFieldsP (clsP (z1.take l1) e1) a0 = X1 at *
    generalize Lib.goFieldsP (clsP (z1.take l1) (!e1)) a0 = X2 at *
    generalize hD : Utf8.decode a0 0 = D at *
    obtain ⟨R, K⟩ := D
    dsimp only at *
    have con5 : Calls Try.prog 9 #[.string a0] u2 fun e w' => e = .returned (.tuple #[.int .i32 (R : Int), .int .i64 (K : Int)]) ∧ u2 = w' := con4
    clear con4 hD
    have con6 : ∀ n, Calls Try.prog 10 #[.slice a1 l1 c1, .int .i32 (R : Int)] (u2.drewN n) fun e w' => e = .returned (.bool (hasI (z1.take l1) false (R : Int))) ∧ w' = u2.drewN n := fun n => C3.out u2 R n k2
    have C6 := Lib.hid con6
    clear con6
    have e9 : (a0.toList == a0.toList) = true := by simp
    generalize hasI (z1.take l1) false (R : Int) = hh at *
    cases hne : (hh != e1)
    · have tt : turnsB X1 X2 = a0 := t1 hne
      have hn2 : (!(hh == e1)) = false := hne
      clear t1 t2 hne
      go_wp2_with fail
      refine con5.mono ?_
      rintro e u3 ⟨rfl, rfl⟩
      go_wp2_with fail
      go_quiet ((go_at_call 10; refine Calls.quiet_of_same (C6.out _)))
      have k3 := k2.trans (iters.below_drewN (w.heap.size + 1) u2 nq)
      have r1 := hr1'.later (iters.below_drewN _ u2 nq)
      have r2 := hr2.later (iters.below_drewN _ u2 nq)
      have con7 := turns_any r1 r2 (by omega) (by omega) (by rw [tt]; omega)
      rw [tt] at con7
      clear tt r1 r2
      go_wp2_with fail
      refine con7.mono ?_
      rintro e u4 ⟨rfl, rfl⟩
      go_wp2
      go_ret
      exact ⟨rfl, F.out _ k3⟩
    · have tt : turnsB X2 X1 = a0 := t2 (by rw [hne]; rfl)
      have hn2 : (!(hh == e1)) = true := hne
      clear t1 t2 hne
      go_wp2_with fail
      refine con5.mono ?_
      rintro e u3 ⟨rfl, rfl⟩
      go_wp2_with fail
      go_quiet ((go_at_call 10; refine Calls.quiet_of_same (C6.out _)))
      have k3 := k2.trans (iters.below_drewN (w.heap.size + 1) u2 nq)
      have r1 := hr1'.later (iters.below_drewN _ u2 nq)
      have r2 := hr2.later (iters.below_drewN _ u2 nq)
      have con7 := turns_any r2 r1 (by omega) (by omega) (by rw [tt]; omega)
      rw [tt] at con7
      clear tt r1 r2
      go_wp2_with fail
      refine con7.mono ?_
      rintro e u4 ⟨rfl, rfl⟩
      go_wp2
      go_ret
      exact ⟨rfl, F.out _ k3⟩
end Go.Proofs.Ytchkjdopoanjdaa.strs
