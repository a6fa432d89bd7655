/-
  The walk of laws.FnAnyBytes: it returns true, for strings of at most 1048576 bytes, where the tables hold what their initialisers lay.
-/
import Derived.Test.YtchkjdopoanjdaaDoorGreat
namespace Go.Proofs.YtchkjdopoanjdaaDoor.strs
open Go.Shelf Go.RowKit Go.Lib base sets iters runes
set_option linter.unusedVariables false

set_option maxRecDepth 100000 in
set_option maxHeartbeats 8000000 in
theorem walkAny (a0 : ByteArray) (a1 : Option Addr) (l1 c1 : Nat) (z1 : List Int) (e1 : Bool) (a2 : Int) (w : World) (m0 : a0.size ≤ 1048576) (w1 : IsRow .i32 w a1 l1 c1 z1) (m1 : c1 ≤ 1048576) (w2 : (Lit.int .i64 a2).wf = true) (tS : SpTab w) (tU : U8Tab w) (tB : BsTab w) :
    Calls Tryd.prog 4 #[.string a0, .agg #[.slice a1 l1 c1, .bool e1], .int .i64 a2] w fun e w' => e = .returned (.bool true) ∧ Below w.heap.size w w' := by
  have hlenx := plain.fields_len isSpaceR a0
  have hleny := plain.fields_len (clsP (z1.take l1) e1) a0
  have hB := below_box w (.cells #[.slice a1 l1 c1, .bool e1] 24)
  obtain ⟨Wb, cp, hcv, hb0, hq, hsc, hcm⟩ := start_bytes w (.cells #[.slice a1 l1 c1, .bool e1] 24) a0 m0
  have low : ∀ W, Below Wb.heap.size Wb W → Below w.heap.size w W := fun W h => hB.trans ((hb0.mono (Nat.le_succ _)).trans (h.mono (Nat.le_trans hB.size (Nat.le_trans hb0.size (Nat.le_refl _)))))
  have row : ∀ W, Below Wb.heap.size Wb W → IsRow .i32 W a1 l1 c1 z1 := fun W h => row_below w1 (low W h)
  have C17 : Hid (∀ W, Below Wb.heap.size Wb W → Calls Tryd.prog 17 #[.string a0] W (StrKept Wb.heap.size Wb W ((goFieldsP isSpaceR a0)))) := fun W h => strKept (implFields a0 W (by omega) (tS.below (low W h))) h (Nat.le_refl _)
  have C19 : Hid (∀ W, Below Wb.heap.size Wb W → Calls Tryd.prog 19 #[.string a0, .int .i64 a2] W (StrKept Wb.heap.size Wb W (seenL (goFieldsP isSpaceR a0) a2))) := fun W h => strKept (implFieldsSeq a0 (by omega) a2 W (tS.below (low W h)) (tU.below (low W h))) h (Nat.le_refl _)
  have C21 : Hid (∀ W, Below Wb.heap.size Wb W → Calls Tryd.prog 21 #[.string a0, .agg #[.slice a1 l1 c1, .bool e1], .int .i64 a2] W (StrKept Wb.heap.size Wb W (seenL (goFieldsP (clsP (z1.take l1) e1) a0) a2))) := fun W h => strKept (implFieldsFuncSeq (row W h) (tU.below (low W h)) e1 a0 (by omega) a2) h (Nat.le_refl _)
  have C22 : Hid (∀ W, Below Wb.heap.size Wb W → Calls Tryd.prog 22 #[.string a0, .agg #[.slice a1 l1 c1, .bool e1]] W (StrKept Wb.heap.size Wb W ((goFieldsP (clsP (z1.take l1) e1) a0)))) := fun W h => strKept (implFieldsFunc (row W h) e1 a0 (by omega)) h (Nat.le_refl _)
  have C23 : Hid (∀ W, Below Wb.heap.size Wb W → Calls Tryd.prog 23 #[.string a0] W (StrKept Wb.heap.size Wb W ((goFieldsP isSpaceR a0)))) := fun W h => strKept (specFields a0 W (by omega)) h (Nat.le_refl _)
  have C24 : Hid (∀ W, Below Wb.heap.size Wb W → Calls Tryd.prog 24 #[.string a0, .slice a1 l1 c1, .bool e1] W (StrKept Wb.heap.size Wb W ((goFieldsP (clsP (z1.take l1) e1) a0)))) := fun W h => strKept (specFieldsFunc (row W h) e1 a0 (by omega)) h (Nat.le_refl _)
  have C25 : Hid (∀ W, Below Wb.heap.size Wb W → Calls Tryd.prog 25 #[.slice (some ⟨w.heap.size + 1, 0, none⟩) a0.size cp] W (StrKept Wb.heap.size Wb W ((goFieldsP isSpaceR a0)))) := fun W h => strKept (implBytesFields (hq.below h) (by omega) hsc hcm (tU.below (low W h)) (tB.below (low W h))) h (Nat.le_refl _)
  have C26 : Hid (∀ W, Below Wb.heap.size Wb W → Calls Tryd.prog 26 #[.slice (some ⟨w.heap.size + 1, 0, none⟩) a0.size cp, .agg #[.slice a1 l1 c1, .bool e1]] W (StrKept Wb.heap.size Wb W ((goFieldsP (clsP (z1.take l1) e1) a0)))) := fun W h => strKept (implBytesFieldsFunc (row W h) (tU.below (low W h)) e1 (hq.below h) (by omega) hsc hcm) h (Nat.le_refl _)
  have C27 : Hid (∀ W, Below Wb.heap.size Wb W → Calls Tryd.prog 27 #[.slice (some ⟨w.heap.size + 1, 0, none⟩) a0.size cp, .int .i64 a2] W (StrKept Wb.heap.size Wb W (seenL (goFieldsP isSpaceR a0) a2))) := fun W h => strKept (implBytesFieldsSeq (tB.below (low W h)) (tU.below (low W h)) (hq.below h) hsc hcm (by omega) a2) h (Nat.le_refl _)
  have C28 : Hid (∀ W, Below Wb.heap.size Wb W → Calls Tryd.prog 28 #[.slice (some ⟨w.heap.size + 1, 0, none⟩) a0.size cp, .agg #[.slice a1 l1 c1, .bool e1], .int .i64 a2] W (StrKept Wb.heap.size Wb W (seenL (goFieldsP (clsP (z1.take l1) e1) a0) a2))) := fun W h => strKept (implBytesFieldsFuncSeq (row W h) (tU.below (low W h)) e1 (hq.below h) hsc hcm (by omega) a2) h (Nat.le_refl _)
  have L := Lib.hid low
  have K : Hid (∀ W, Below Wb.heap.size Wb W → Below Wb.heap.size Wb W ∧ W.cell? ⟨w.heap.size, 0, none⟩ = some (.slice a1 l1 c1) ∧ W.cell? ⟨w.heap.size, 1, none⟩ = some (.bool e1)) := fun W h => keepT hb0 h
  have kr : Below Wb.heap.size Wb Wb := Below.refl _ _
  have kd : Below Wb.heap.size Wb Wb.drew := (Below.refl _ _).drew
  clear low row hb0 hB hq hsc hcm w1 w2 tS tU tB m1
  generalize goFieldsP isSpaceR a0 = XS at *
  generalize goFieldsP (clsP (z1.take l1) e1) a0 = YS at *
  have hX : XS.length ≤ 140737488351232 := by omega
  have hY : YS.length ≤ 140737488351232 := by omega
  have hXS : (seenL XS a2).length ≤ 140737488351232 := Nat.le_trans (seenL_le2 XS a2) hX
  have hYS : (seenL YS a2).length ≤ 140737488351232 := Nat.le_trans (seenL_le2 YS a2) hY
  clear hlenx hleny m0
  generalize a0.size = n at *
  obtain ⟨x0, x1⟩ := (K.out _ kr).2
  clear kd
  go_enter Tryd.func4, Tryd.ntmps4
  go_wp2_with fail
  refine (C24.out _ kr).mono ?_
  rintro e u16 ⟨v16, rfl, r16, b16, k16⟩
  clear x0 x1 kr hcv C24 b16
  obtain ⟨x0, x1⟩ := (K.out _ k16).2
  go_wp2_with fail
  refine (C17.out _ k16).mono ?_
  rintro e u18 ⟨v18, rfl, r18, b18, k18⟩
  replace r16 := r16.later b18
  clear  b18 x0 x1
  obtain ⟨x0, x1⟩ := (K.out _ k18).2
  clear k16
  go_wp2_with fail
  refine (C23.out _ k18).mono ?_
  rintro e u20 ⟨v20, rfl, r20, b20, k20⟩
  replace r16 := r16.later b20
  replace r18 := r18.later b20
  clear  b20 x0 x1
  obtain ⟨x0, x1⟩ := (K.out _ k20).2
  clear k18
  go_wp2_with fail
  refine (equal_kept r18 r20 hX k20 (Nat.le_refl _)).mono ?_
  rintro e u21 ⟨rfl, b21, k21⟩
  replace r16 := r16.later b21
  clear r18 r20 b21 x0 x1
  obtain ⟨x0, x1⟩ := (K.out _ k21).2
  clear k20
  go_wp2_with fail
  refine (C25.out _ k21).mono ?_
  rintro e u24 ⟨v24, rfl, r24, b24, k24⟩
  replace r16 := r16.later b24
  clear  b24 x0 x1
  obtain ⟨x0, x1⟩ := (K.out _ k24).2
  clear k21
  go_wp2_with fail
  refine (C23.out _ k24).mono ?_
  rintro e u26 ⟨v26, rfl, r26, b26, k26⟩
  replace r16 := r16.later b26
  replace r24 := r24.later b26
  clear  b26 x0 x1
  obtain ⟨x0, x1⟩ := (K.out _ k26).2
  clear k24
  go_wp2_with fail
  refine (equal_kept r24 r26 hX k26 (Nat.le_refl _)).mono ?_
  rintro e u27 ⟨rfl, b27, k27⟩
  replace r16 := r16.later b27
  clear r24 r26 b27 x0 x1
  obtain ⟨x0, x1⟩ := (K.out _ k27).2
  clear k26
  go_wp2_with fail
  refine (C22.out _ k27).mono ?_
  rintro e u32 ⟨v32, rfl, r32, b32, k32⟩
  replace r16 := r16.later b32
  clear  b32 x0 x1
  obtain ⟨x0, x1⟩ := (K.out _ k32).2
  clear k27
  go_wp2_with fail
  refine (equal_kept r32 r16 hY k32 (Nat.le_refl _)).mono ?_
  rintro e u34 ⟨rfl, b34, k34⟩
  replace r16 := r16.later b34
  clear r32 b34 x0 x1
  obtain ⟨x0, x1⟩ := (K.out _ k34).2
  clear k32
  go_wp2_with fail
  refine (C26.out _ k34).mono ?_
  rintro e u39 ⟨v39, rfl, r39, b39, k39⟩
  replace r16 := r16.later b39
  clear  b39 x0 x1
  obtain ⟨x0, x1⟩ := (K.out _ k39).2
  clear k34
  go_wp2_with fail
  refine (equal_kept r39 r16 hY k39 (Nat.le_refl _)).mono ?_
  rintro e u41 ⟨rfl, b41, k41⟩
  replace r16 := r16.later b41
  clear r39 b41 x0 x1
  obtain ⟨x0, x1⟩ := (K.out _ k41).2
  clear k39
  go_wp2_with fail
  refine (C19.out _ k41).mono ?_
  rintro e u46 ⟨v46, rfl, r46, b46, k46⟩
  replace r16 := r16.later b46
  clear  b46 x0 x1
  obtain ⟨x0, x1⟩ := (K.out _ k46).2
  clear k41
  go_wp2_with fail
  refine (C23.out _ k46).mono ?_
  rintro e u48 ⟨v48, rfl, r48, b48, k48⟩
  replace r16 := r16.later b48
  replace r46 := r46.later b48
  clear  b48 x0 x1
  obtain ⟨x0, x1⟩ := (K.out _ k48).2
  clear k46
  go_wp2_with fail
  refine (specSeen r48 a2 hX).mono ?_
  rintro e u50 ⟨v50, rfl, r50, rfl⟩
  clear r48
  go_wp2_with fail
  refine (equal_kept r46 r50 hXS k48 (Nat.le_refl _)).mono ?_
  rintro e u51 ⟨rfl, b51, k51⟩
  replace r16 := r16.later b51
  clear r46 r50 b51 x0 x1
  obtain ⟨x0, x1⟩ := (K.out _ k51).2
  clear k48
  go_wp2_with fail
  refine (C27.out _ k51).mono ?_
  rintro e u56 ⟨v56, rfl, r56, b56, k56⟩
  replace r16 := r16.later b56
  clear  b56 x0 x1
  obtain ⟨x0, x1⟩ := (K.out _ k56).2
  clear k51
  go_wp2_with fail
  refine (C23.out _ k56).mono ?_
  rintro e u58 ⟨v58, rfl, r58, b58, k58⟩
  replace r16 := r16.later b58
  replace r56 := r56.later b58
  clear  b58 x0 x1
  obtain ⟨x0, x1⟩ := (K.out _ k58).2
  clear k56
  go_wp2_with fail
  refine (specSeen r58 a2 hX).mono ?_
  rintro e u60 ⟨v60, rfl, r60, rfl⟩
  clear r58
  go_wp2_with fail
  refine (equal_kept r56 r60 hXS k58 (Nat.le_refl _)).mono ?_
  rintro e u61 ⟨rfl, b61, k61⟩
  replace r16 := r16.later b61
  clear r56 r60 b61 x0 x1
  obtain ⟨x0, x1⟩ := (K.out _ k61).2
  clear k58
  go_wp2_with fail
  refine (C21.out _ k61).mono ?_
  rintro e u67 ⟨v67, rfl, r67, b67, k67⟩
  replace r16 := r16.later b67
  clear  b67 x0 x1
  obtain ⟨x0, x1⟩ := (K.out _ k67).2
  clear k61
  go_wp2_with fail
  refine (specSeen r16 a2 hY).mono ?_
  rintro e u70 ⟨v70, rfl, r70, rfl⟩
  go_wp2_with fail
  refine (equal_kept r67 r70 hYS k67 (Nat.le_refl _)).mono ?_
  rintro e u71 ⟨rfl, b71, k71⟩
  replace r16 := r16.later b71
  clear r67 r70 b71 x0 x1
  obtain ⟨x0, x1⟩ := (K.out _ k71).2
  clear k67
  go_wp2_with fail
  refine (C28.out _ k71).mono ?_
  rintro e u77 ⟨v77, rfl, r77, b77, k77⟩
  replace r16 := r16.later b77
  clear  b77 x0 x1
  obtain ⟨x0, x1⟩ := (K.out _ k77).2
  clear k71
  go_wp2_with fail
  refine (specSeen r16 a2 hY).mono ?_
  rintro e u80 ⟨v80, rfl, r80, rfl⟩
  clear r16
  go_wp2_with fail
  refine (equal_kept r77 r80 hYS k77 (Nat.le_refl _)).mono ?_
  rintro e u81 ⟨rfl, b81, k81⟩
  clear r77 r80 b81 x0 x1
  obtain ⟨x0, x1⟩ := (K.out _ k81).2
  clear k77
  go_wp2
  go_ret
  exact ⟨rfl, L.out _ (by assumption)⟩
end Go.Proofs.YtchkjdopoanjdaaDoor.strs
