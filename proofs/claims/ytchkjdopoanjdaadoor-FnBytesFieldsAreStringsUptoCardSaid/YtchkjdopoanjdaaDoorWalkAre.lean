/-
  The walk of laws.FnBytesFieldsAreStrings: it returns true, for strings of at most 1048576 bytes, where the tables hold what their initialisers lay.
-/
import Derived.Test.YtchkjdopoanjdaaDoorGreat
namespace Go.Proofs.YtchkjdopoanjdaaDoor.strs
open Go.Shelf Go.RowKit Go.Lib base sets iters runes
set_option linter.unusedVariables false

set_option maxRecDepth 100000 in
set_option maxHeartbeats 8000000 in
theorem walkAre (a0 : ByteArray) (a1 : Option Addr) (l1 c1 : Nat) (z1 : List Int) (e1 : Bool) (a2 : Int) (w : World) (m0 : a0.size ≤ 1048576) (w1 : IsRow .i32 w a1 l1 c1 z1) (m1 : c1 ≤ 1048576) (w2 : (Lit.int .i64 a2).wf = true) (tS : SpTab w) (tU : U8Tab w) (tB : BsTab w) :
    Calls Tryd.prog 5 #[.string a0, .agg #[.slice a1 l1 c1, .bool e1], .int .i64 a2] w fun e w' => e = .returned (.bool true) ∧ Below w.heap.size w w' := by
  have hlenx := plain.fields_len isSpaceR a0
  have hleny := plain.fields_len (clsP (z1.take l1) e1) a0
  have hB := below_box w (.cells #[.slice a1 l1 c1, .bool e1] 24)
  obtain ⟨Wb, cp, hcv, hb0, hq, hsc, hcm⟩ := start_bytes w (.cells #[.slice a1 l1 c1, .bool e1] 24) a0 m0
  have low : ∀ W, Below Wb.heap.size Wb W → Below w.heap.size w W := fun W h => hB.trans ((hb0.mono (Nat.le_succ _)).trans (h.mono (Nat.le_trans hB.size (Nat.le_trans hb0.size (Nat.le_refl _)))))
  have row : ∀ W, Below Wb.heap.size Wb W → IsRow .i32 W a1 l1 c1 z1 := fun W h => row_below w1 (low W h)
  have C17 : Hid (∀ W, Below Wb.heap.size Wb W → Calls Tryd.prog 17 #[.string a0] W (StrKept Wb.heap.size Wb W ((goFieldsP isSpaceR a0)))) := fun W h => strKept (implFields a0 W (by omega) (tS.below (low W h))) h (Nat.le_refl _)
  have C19 : Hid (∀ W, Below Wb.heap.size Wb W → Calls Tryd.prog 19 #[.string a0, .int .i64 a2] W (StrKept Wb.heap.size Wb W (seenL (goFieldsP isSpaceR a0) a2))) := fun W h => strKept (implFieldsSeq a0 (by omega) a2 W (tS.below (low W h)) (tU.below (low W h))) h (Nat.le_refl _)
  have C21 : Hid (∀ W, Below Wb.heap.size Wb W → Calls Tryd.prog 21 #[.string a0, .agg #[.slice a1 l1 c1, .bool e1], .int .i64 a2] W (StrKept Wb.heap.size Wb W (seenL (goFieldsP (clsP (z1.take l1) e1) a0) a2))) := fun W h => strKept (implFieldsFuncSeq (row W h) (tU.below (low W h)) e1 a0 (by omega) a2) h (Nat.le_refl _)
  have C22 : Hid (∀ W, Below Wb.heap.size Wb W → Calls Tryd.prog 22 #[.string a0, .agg #[.slice a1 l1 c1, .bool e1]] W (StrKept Wb.heap.size Wb W ((goFieldsP (clsP (z1.take l1) e1) a0)))) := fun W h => strKept (implFieldsFunc (row W h) e1 a0 (by omega)) h (Nat.le_refl _)
  have C23 : Hid (∀ W, Below Wb.heap.size Wb W → Calls Tryd.prog 23 #[.string a0] W (StrKept Wb.heap.size Wb W ((goFieldsP isSpaceR a0)))) := fun W h => strKept (specFields a0 W (by omega)) h (Nat.le_refl _)
  have C25 : Hid (∀ W, Below Wb.heap.size Wb W → Calls Tryd.prog 25 #[.slice (some ⟨w.heap.size + 1, 0, none⟩) a0.size cp] W (StrKept Wb.heap.size Wb W ((goFieldsP isSpaceR a0)))) := fun W h => strKept (implBytesFields (hq.below h) (by omega) hsc hcm (tU.below (low W h)) (tB.below (low W h))) h (Nat.le_refl _)
  have C26 : Hid (∀ W, Below Wb.heap.size Wb W → Calls Tryd.prog 26 #[.slice (some ⟨w.heap.size + 1, 0, none⟩) a0.size cp, .agg #[.slice a1 l1 c1, .bool e1]] W (StrKept Wb.heap.size Wb W ((goFieldsP (clsP (z1.take l1) e1) a0)))) := fun W h => strKept (implBytesFieldsFunc (row W h) (tU.below (low W h)) e1 (hq.below h) (by omega) hsc hcm) h (Nat.le_refl _)
  have C27 : Hid (∀ W, Below Wb.heap.size Wb W → Calls Tryd.prog 27 #[.slice (some ⟨w.heap.size + 1, 0, none⟩) a0.size cp, .int .i64 a2] W (StrKept Wb.heap.size Wb W (seenL (goFieldsP isSpaceR a0) a2))) := fun W h => strKept (implBytesFieldsSeq (tB.below (low W h)) (tU.below (low W h)) (hq.below h) hsc hcm (by omega) a2) h (Nat.le_refl _)
  have C28 : Hid (∀ W, Below Wb.heap.size Wb W → Calls Tryd.prog 28 #[.slice (some ⟨w.heap.size + 1, 0, none⟩) a0.size cp, .agg #[.slice a1 l1 c1, .bool e1], .int .i64 a2] W (StrKept Wb.heap.size Wb W (seenL (goFieldsP (clsP (z1.take l1) e1) a0) a2))) := fun W h => strKept (implBytesFieldsFuncSeq (row W h) (tU.below (low W h)) e1 (hq.below h) hsc hcm (by omega) a2) h (Nat.le_refl _)
  have L := Lib.hid low
  have K : Hid (∀ W, Below Wb.heap.size Wb W → Below Wb.heap.size Wb W ∧ W.cell? ⟨w.heap.size, 0, none⟩ = some (.slice a1 l1 c1) ∧ W.cell? ⟨w.heap.size, 1, none⟩ = some (.bool e1)) := fun W h => keepT hb0 h
  have kr : Below Wb.heap.size Wb Wb := Below.refl _ _
  have kd : Below Wb.heap.size Wb Wb.drew := (Below.refl _ _).drew
  clear low row hb0 hB hq hsc hcm w1 w2 tS tU tB m1
  generalize goFieldsP isSpaceR a0 = XS at *
  generalize goFieldsP (clsP (z1.take l1) e1) a0 = YS at *
  have hX : XS.length ≤ 140737488351232 := by omega
  have hY : YS.length ≤ 140737488351232 := by omega
  have hXS : (seenL XS a2).length ≤ 140737488351232 := Nat.le_trans (seenL_le2 XS a2) hX
  have hYS : (seenL YS a2).length ≤ 140737488351232 := Nat.le_trans (seenL_le2 YS a2) hY
  clear hlenx hleny m0
  generalize a0.size = n at *
  rcases Nat.eq_zero_or_pos XS.length with h0 | hpos
  · have hE : XS = [] := List.eq_nil_of_length_eq_zero h0
    subst hE
    go_enter Tryd.func5, Tryd.ntmps5
    go_wp2_with fail
    first | go_region_held3 (fun W => Below Wb.heap.size Wb W ∧ W.cell? ⟨w.heap.size, 0, none⟩ = some (.slice a1 l1 c1) ∧ W.cell? ⟨w.heap.size, 1, none⟩ = some (.bool e1)) (first | exact K.out _ kd | exact K.out _ (by assumption)) (first | (go_at_call 23; refine (C23.out _ k46).mono ?_; rintro e u51 ⟨v51, rfl, r51, b51, k51⟩; obtain ⟨qa51, qc51, rfl⟩ := cells_at r51) | (go_at_call 17; refine (C17.out _ k42).mono ?_; rintro e u46 ⟨v46, rfl, r46, b46, k46⟩; obtain ⟨qa46, qc46, rfl⟩ := cells_at r46) | (go_at_call 18; refine (equal_kept r37 r41 hYS k41 (Nat.le_refl _)).mono ?_; rintro e u42 ⟨rfl, b42, k42⟩) | (go_at_call 21; refine (C21.out _ k37).mono ?_; rintro e u41 ⟨v41, rfl, r41, b41, k41⟩; have r37 := r37.later b41) | (go_at_call 28; refine (C28.out _ k31).mono ?_; rintro e u37 ⟨v37, rfl, r37, b37, k37⟩) | (go_at_call 18; refine (equal_kept r27 r30 hXS k30 (Nat.le_refl _)).mono ?_; rintro e u31 ⟨rfl, b31, k31⟩) | (go_at_call 19; refine (C19.out _ k27).mono ?_; rintro e u30 ⟨v30, rfl, r30, b30, k30⟩; have r27 := r27.later b30) | (go_at_call 27; refine (C27.out _ k22).mono ?_; rintro e u27 ⟨v27, rfl, r27, b27, k27⟩) | (go_at_call 18; refine (equal_kept r18 r21 hY k21 (Nat.le_refl _)).mono ?_; rintro e u22 ⟨rfl, b22, k22⟩) | (go_at_call 22; refine (C22.out _ k18).mono ?_; rintro e u21 ⟨v21, rfl, r21, b21, k21⟩; have r18 := r18.later b21) | (go_at_call 26; refine (C26.out _ k14).mono ?_; rintro e u18 ⟨v18, rfl, r18, b18, k18⟩) | (go_at_call 18; refine (equal_kept r11 r13 hX k13 (Nat.le_refl _)).mono ?_; rintro e u14 ⟨rfl, b14, k14⟩) | (go_at_call 17; refine (C17.out _ k11).mono ?_; rintro e u13 ⟨v13, rfl, r13, b13, k13⟩; have r11 := r11.later b13) | (go_at_call 25; refine (C25.out _ kd).mono ?_; rintro e u11 ⟨v11, rfl, r11, b11, k11⟩)) | fail
    go_wp2
    go_ret
    exact ⟨rfl, L.out _ (by assumption)⟩
  · have hp1 : (0 : Int) < (XS.length : Int) := by omega
    have hp2 : decide ((0 : Int) < (XS.length : Int)) = true := decide_eq_true hp1
    go_enter Tryd.func5, Tryd.ntmps5
    go_wp2_with fail
    first | go_region_held (fun W => Below Wb.heap.size Wb W ∧ W.cell? ⟨w.heap.size, 0, none⟩ = some (.slice a1 l1 c1) ∧ W.cell? ⟨w.heap.size, 1, none⟩ = some (.bool e1)) (first | exact K.out _ kd | exact K.out _ (by assumption)) (first | (go_at_call 23; refine (C23.out _ k46).mono ?_; rintro e u51 ⟨v51, rfl, r51, b51, k51⟩; obtain ⟨qa51, qc51, rfl⟩ := cells_at r51) | (go_at_call 17; refine (C17.out _ k42).mono ?_; rintro e u46 ⟨v46, rfl, r46, b46, k46⟩; obtain ⟨qa46, qc46, rfl⟩ := cells_at r46) | (go_at_call 18; refine (equal_kept r37 r41 hYS k41 (Nat.le_refl _)).mono ?_; rintro e u42 ⟨rfl, b42, k42⟩) | (go_at_call 21; refine (C21.out _ k37).mono ?_; rintro e u41 ⟨v41, rfl, r41, b41, k41⟩; have r37 := r37.later b41) | (go_at_call 28; refine (C28.out _ k31).mono ?_; rintro e u37 ⟨v37, rfl, r37, b37, k37⟩) | (go_at_call 18; refine (equal_kept r27 r30 hXS k30 (Nat.le_refl _)).mono ?_; rintro e u31 ⟨rfl, b31, k31⟩) | (go_at_call 19; refine (C19.out _ k27).mono ?_; rintro e u30 ⟨v30, rfl, r30, b30, k30⟩; have r27 := r27.later b30) | (go_at_call 27; refine (C27.out _ k22).mono ?_; rintro e u27 ⟨v27, rfl, r27, b27, k27⟩) | (go_at_call 18; refine (equal_kept r18 r21 hY k21 (Nat.le_refl _)).mono ?_; rintro e u22 ⟨rfl, b22, k22⟩) | (go_at_call 22; refine (C22.out _ k18).mono ?_; rintro e u21 ⟨v21, rfl, r21, b21, k21⟩; have r18 := r18.later b21) | (go_at_call 26; refine (C26.out _ k14).mono ?_; rintro e u18 ⟨v18, rfl, r18, b18, k18⟩) | (go_at_call 18; refine (equal_kept r11 r13 hX k13 (Nat.le_refl _)).mono ?_; rintro e u14 ⟨rfl, b14, k14⟩) | (go_at_call 17; refine (C17.out _ k11).mono ?_; rintro e u13 ⟨v13, rfl, r13, b13, k13⟩; have r11 := r11.later b13) | (go_at_call 25; refine (C25.out _ kd).mono ?_; rintro e u11 ⟨v11, rfl, r11, b11, k11⟩)) | fail
    go_wp2
    go_ret
    exact ⟨rfl, L.out _ (by assumption)⟩
end Go.Proofs.YtchkjdopoanjdaaDoor.strs
