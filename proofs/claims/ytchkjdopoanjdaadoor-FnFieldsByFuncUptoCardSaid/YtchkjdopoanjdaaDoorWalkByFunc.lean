/-
  The walk of laws.FnFieldsByFunc: it returns true, for strings of at most 1048576 bytes, where the tables hold what their initialisers lay.
-/
import Derived.Test.YtchkjdopoanjdaaDoorWalkIters
namespace Go.Proofs.YtchkjdopoanjdaaDoor.strs
open Go.Shelf Go.RowKit Go.Lib base sets iters runes
set_option linter.unusedVariables false

set_option maxHeartbeats 4000000 in
theorem walkByFunc (a0 : ByteArray) (a2 : Int) (w : World) (m0 : a0.size ≤ 1048576) (w2 : (Lit.int .i64 a2).wf = true) (tS : SpTab w) (tU : U8Tab w) :
    Calls Tryd.prog 16 #[.string a0, .int .i64 a2] w fun e w' => e = .returned (.bool true) ∧ Below w.heap.size w w' := by
  have hlen0 := plain.fields_len isSpaceR a0
  have fs := fields_spaces a0
  have con0 := specSpaces w
  have prep : ∀ (wz : World) (b : Nat), IsRow .i32 wz (some ⟨b, 0, none⟩) 25 25 spaces → Below w.heap.size w wz →
      Hid (∀ W, Below (wz.heap.size + 1) (wz.alloc (.cells #[(.slice (some ⟨b, 0, none⟩) 25 25), .bool false] 24)) W → Calls Tryd.prog 17 #[.string a0] W (StrKept (wz.heap.size + 1) (wz.alloc (.cells #[(.slice (some ⟨b, 0, none⟩) 25 25), .bool false] 24)) W (goFieldsP isSpaceR a0))) ∧
      Hid (∀ W, Below (wz.heap.size + 1) (wz.alloc (.cells #[(.slice (some ⟨b, 0, none⟩) 25 25), .bool false] 24)) W → Calls Tryd.prog 19 #[.string a0, .int .i64 a2] W (StrKept (wz.heap.size + 1) (wz.alloc (.cells #[(.slice (some ⟨b, 0, none⟩) 25 25), .bool false] 24)) W (seenL (goFieldsP isSpaceR a0) a2))) ∧
      Hid (∀ W, Below (wz.heap.size + 1) (wz.alloc (.cells #[(.slice (some ⟨b, 0, none⟩) 25 25), .bool false] 24)) W → Calls Tryd.prog 21 #[.string a0, .agg #[(.slice (some ⟨b, 0, none⟩) 25 25), .bool false], .int .i64 a2] W (StrKept (wz.heap.size + 1) (wz.alloc (.cells #[(.slice (some ⟨b, 0, none⟩) 25 25), .bool false] 24)) W (seenL (goFieldsP isSpaceR a0) a2))) ∧
      Hid (∀ W, Below (wz.heap.size + 1) (wz.alloc (.cells #[(.slice (some ⟨b, 0, none⟩) 25 25), .bool false] 24)) W → Calls Tryd.prog 22 #[.string a0, .agg #[(.slice (some ⟨b, 0, none⟩) 25 25), .bool false]] W (StrKept (wz.heap.size + 1) (wz.alloc (.cells #[(.slice (some ⟨b, 0, none⟩) 25 25), .bool false] 24)) W (goFieldsP isSpaceR a0))) ∧
      Hid (∀ W, Below (wz.heap.size + 1) (wz.alloc (.cells #[(.slice (some ⟨b, 0, none⟩) 25 25), .bool false] 24)) W → Calls Tryd.prog 23 #[.string a0] W (StrKept (wz.heap.size + 1) (wz.alloc (.cells #[(.slice (some ⟨b, 0, none⟩) 25 25), .bool false] 24)) W (goFieldsP isSpaceR a0))) ∧
      Hid (∀ W, Below (wz.heap.size + 1) (wz.alloc (.cells #[(.slice (some ⟨b, 0, none⟩) 25 25), .bool false] 24)) W → Below w.heap.size w W) := fun wz b hrow hbz => by
    have hB := below_box wz (.cells #[(.slice (some ⟨b, 0, none⟩) 25 25), .bool false] 24)
    have hz := size_box wz (.slice (some ⟨b, 0, none⟩) 25 25) (.bool false) 24
    have hBB : wz.heap.size + 1 ≤ (wz.alloc (.cells #[(.slice (some ⟨b, 0, none⟩) 25 25), .bool false] 24)).heap.size := by omega
    have lowz : ∀ W, Below (wz.heap.size + 1) (wz.alloc (.cells #[(.slice (some ⟨b, 0, none⟩) 25 25), .bool false] 24)) W → Below wz.heap.size wz W := fun W h => hB.trans (h.mono (Nat.le_succ _))
    have low : ∀ W, Below (wz.heap.size + 1) (wz.alloc (.cells #[(.slice (some ⟨b, 0, none⟩) 25 25), .bool false] 24)) W → Below w.heap.size w W := fun W h => hbz.trans ((lowz W h).mono hbz.size)
    have row : ∀ W, Below (wz.heap.size + 1) (wz.alloc (.cells #[(.slice (some ⟨b, 0, none⟩) 25 25), .bool false] 24)) W → IsRow .i32 W (some ⟨b, 0, none⟩) 25 25 spaces := fun W h => row_below hrow (lowz W h)
    refine ⟨Lib.hid fun W h => strKept (implFields a0 W (by omega) (tS.below (low W h))) h hBB, Lib.hid fun W h => strKept (implFieldsSeq a0 (by omega) a2 W (tS.below (low W h)) (tU.below (low W h))) h hBB, Lib.hid fun W h => ?_, Lib.hid fun W h => ?_, Lib.hid fun W h => strKept (specFields a0 W (by omega)) h hBB, Lib.hid low⟩
    · have := implFieldsFuncSeq (row W h) (tU.below (low W h)) false a0 (by omega) a2
      rw [fs] at this
      exact strKept this h hBB
    · have := implFieldsFunc (row W h) false a0 (by omega)
      rw [fs] at this
      exact strKept this h hBB
  have PR := Lib.hid prep
  clear prep tS tU w2 fs
  generalize goFieldsP isSpaceR a0 = XS at *
  have hlenX : XS.length ≤ 140737488351232 := by omega
  have hlenXS : (seenL XS a2).length ≤ 140737488351232 := Nat.le_trans (seenL_le2 XS a2) hlenX
  rcases Nat.eq_zero_or_pos XS.length with h0 | hpos
  · have hX : XS = [] := List.eq_nil_of_length_eq_zero h0
    subst hX
    go_enter Tryd.func16, Tryd.ntmps16
    go_wp2_with fail
    refine con0.mono ?_
    rintro e wz ⟨b, rfl, hrow, hbz⟩
    obtain ⟨C17, C19, C21, C22, C23, L⟩ := PR.out wz b hrow hbz
    have hz := size_box wz (.slice (some ⟨b, 0, none⟩) 25 25) (.bool false) 24
    have hBB : wz.heap.size + 1 ≤ (wz.alloc (.cells #[(.slice (some ⟨b, 0, none⟩) 25 25), .bool false] 24)).heap.size := by omega
    have kd : Below (wz.heap.size + 1) (wz.alloc (.cells #[(.slice (some ⟨b, 0, none⟩) 25 25), .bool false] 24)) (wz.alloc (.cells #[(.slice (some ⟨b, 0, none⟩) 25 25), .bool false] 24)).drew := (Below.refl _ _).drew
    clear hz hrow hbz con0 PR
    go_wp2_with fail
    first | go_region_held3 (fun W => Below (wz.heap.size + 1) (wz.alloc (.cells #[(.slice (some ⟨b, 0, none⟩) 25 25), .bool false] 24)) W ∧ W.cell? ⟨wz.heap.size, 0, none⟩ = some (.slice (some ⟨b, 0, none⟩) 25 25) ∧ W.cell? ⟨wz.heap.size, 1, none⟩ = some (.bool false)) (first | exact keepS kd | exact keepS (by assumption)) (first | (go_at_call 22; refine (C22.out _ k9).mono ?_; rintro e u2 ⟨v12, rfl, r12, b12, k12⟩; have r9 := r9.later b12) | (go_at_call 18; refine (equal_kept r17 r21 hlenXS k21 hBB).mono ?_; rintro e u6 ⟨rfl, b22, k22⟩) | (go_at_call 18; refine (equal_kept r9 r12 hlenX k12 hBB).mono ?_; rintro e u3 ⟨rfl, b13, k13⟩) | (go_at_call 19; refine (C19.out _ k13).mono ?_; rintro e u4 ⟨v17, rfl, r17, b17, k17⟩) | (go_at_call 21; refine (C21.out _ k17).mono ?_; rintro e u5 ⟨v21, rfl, r21, b21, k21⟩; have r17 := r17.later b21) | (go_at_call 17; refine (C17.out _ k22).mono ?_; rintro e u7 ⟨v26, rfl, r26, b26, k26⟩; obtain ⟨a8, d8, rfl⟩ := cells_at r26) | (go_at_call 17; refine (C17.out _ kd).mono ?_; rintro e u1 ⟨v9, rfl, r9, b9, k9⟩) | (go_at_call 23; refine (C23.out _ k26).mono ?_; rintro e u8 ⟨v31, rfl, r31, b31, k31⟩; obtain ⟨a9, d9, rfl⟩ := cells_at r31)) | fail
    go_wp2
    go_ret
    exact ⟨rfl, L.out _ (by assumption)⟩
  · have hp1 : (0 : Int) < (XS.length : Int) := by omega
    have hp2 : decide ((0 : Int) < (XS.length : Int)) = true := decide_eq_true hp1
    go_enter Tryd.func16, Tryd.ntmps16
    go_wp2_with fail
    refine con0.mono ?_
    rintro e wz ⟨b, rfl, hrow, hbz⟩
    obtain ⟨C17, C19, C21, C22, C23, L⟩ := PR.out wz b hrow hbz
    have hz := size_box wz (.slice (some ⟨b, 0, none⟩) 25 25) (.bool false) 24
    have hBB : wz.heap.size + 1 ≤ (wz.alloc (.cells #[(.slice (some ⟨b, 0, none⟩) 25 25), .bool false] 24)).heap.size := by omega
    have kd : Below (wz.heap.size + 1) (wz.alloc (.cells #[(.slice (some ⟨b, 0, none⟩) 25 25), .bool false] 24)) (wz.alloc (.cells #[(.slice (some ⟨b, 0, none⟩) 25 25), .bool false] 24)).drew := (Below.refl _ _).drew
    clear hz hrow hbz con0 PR
    go_wp2_with fail
    first | go_region_held (fun W => Below (wz.heap.size + 1) (wz.alloc (.cells #[(.slice (some ⟨b, 0, none⟩) 25 25), .bool false] 24)) W ∧ W.cell? ⟨wz.heap.size, 0, none⟩ = some (.slice (some ⟨b, 0, none⟩) 25 25) ∧ W.cell? ⟨wz.heap.size, 1, none⟩ = some (.bool false)) (first | exact keepS kd | exact keepS (by assumption)) (first | (go_at_call 22; refine (C22.out _ k9).mono ?_; rintro e u2 ⟨v12, rfl, r12, b12, k12⟩; have r9 := r9.later b12) | (go_at_call 18; refine (equal_kept r17 r21 hlenXS k21 hBB).mono ?_; rintro e u6 ⟨rfl, b22, k22⟩) | (go_at_call 18; refine (equal_kept r9 r12 hlenX k12 hBB).mono ?_; rintro e u3 ⟨rfl, b13, k13⟩) | (go_at_call 19; refine (C19.out _ k13).mono ?_; rintro e u4 ⟨v17, rfl, r17, b17, k17⟩) | (go_at_call 21; refine (C21.out _ k17).mono ?_; rintro e u5 ⟨v21, rfl, r21, b21, k21⟩; have r17 := r17.later b21) | (go_at_call 17; refine (C17.out _ k22).mono ?_; rintro e u7 ⟨v26, rfl, r26, b26, k26⟩; obtain ⟨a8, d8, rfl⟩ := cells_at r26) | (go_at_call 17; refine (C17.out _ kd).mono ?_; rintro e u1 ⟨v9, rfl, r9, b9, k9⟩) | (go_at_call 23; refine (C23.out _ k26).mono ?_; rintro e u8 ⟨v31, rfl, r31, b31, k31⟩; obtain ⟨a9, d9, rfl⟩ := cells_at r31)) | fail
    go_wp2
    go_ret
    exact ⟨rfl, L.out _ (by assumption)⟩
end Go.Proofs.YtchkjdopoanjdaaDoor.strs
