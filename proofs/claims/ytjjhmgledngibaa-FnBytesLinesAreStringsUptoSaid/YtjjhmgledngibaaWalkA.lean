/-
  The walks of laws.FnLines and laws.FnLinesStop: they return true, for strings of at most 1048576 bytes.
-/
import Derived.Test.YtjjhmgledngibaaIter
import Derived.Test.YtjjhmgledngibaaSpec
import Derived.Test.YtjjhmgledngibaaJoined
namespace Go.Proofs.Ytjjhmgledngibaa.iters
open Go.RowKit plain
set_option linter.unusedVariables false

theorem seenL_le {α : Type} (xs : List α) (most : Int) : (seenL xs most).length ≤ xs.length := by
  unfold seenL
  split
  · rw [List.length_take]; omega
  · exact Nat.le_refl _
theorem seenL_zero {α : Type} (xs : List α) : seenL xs 0 = xs := by unfold seenL; rw [if_neg (by omega)]

set_option maxHeartbeats 2000000 in
theorem walkLines (a0 : ByteArray) (a1 : Int) (w : World) (m0 : a0.size ≤ 1048576) (w1 : (Lit.int .i64 a1).wf = true) :
    Calls Try.prog 5 #[.string a0, .int .i64 a1] w fun e w' => e = .returned (.bool true) ∧ Below w.heap.size w w' := by
  have hl := linesB_length a0
  have hl2 := seenL_le (linesB a0) a1
  have con1 := implLines a0 (by omega) a1 w
  clear w1
  go_enter Try.func5, Try.ntmps5
  go_wp2_with fail
  refine con1.mono ?_
  rintro e w1 ⟨v1, rfl, hr1, hb1⟩
  go_wp2_with fail
  refine (specLines a0 (by omega) w1).mono ?_
  rintro e w2 ⟨v2, rfl, hr2, hb2⟩
  go_wp2_with fail
  refine (specSeen hr2 a1 (by omega)).mono ?_
  rintro e w3 ⟨v3, rfl, hr3, rfl⟩
  have hr1' := hr1.later hb2
  have z1 := hb1.size
  go_wp2_with fail
  refine (equal_same hr1' hr3 (by omega)).mono ?_
  rintro e w4 ⟨rfl, hb4⟩
  have z2 := hb2.size
  have fin : Below w.heap.size w w4 := (hb1.trans (hb2.mono z1)).trans (hb4.mono (by omega))
  clear hr1 hr2 hr3 hr1'
  go_wp2
  go_ret
  exact ⟨rfl, fin⟩

theorem joinFrom_empty : ∀ (r : List ByteArray) (acc : ByteArray), (joinFrom ⟨#[]⟩ acc r).data.toList = acc.data.toList ++ (r.map (·.data.toList)).flatten
  | [], acc => by simp [joinFrom]
  | x :: r, acc => by
    unfold joinFrom
    rw [joinFrom_empty r _, Joins.data_append, Joins.data_append]
    simp
theorem joinB_empty (xs : List ByteArray) : (joinB ⟨#[]⟩ xs).data.toList = (xs.map (·.data.toList)).flatten := by
  cases xs with
  | nil => rfl
  | cons x r => unfold joinB; rw [joinFrom_empty]; simp
theorem linesB_data (s : ByteArray) : (linesB s).map (·.data.toList) = lines s.data.toList := by
  unfold linesB
  rw [List.map_map]
  conv => rhs; rw [← List.map_id (lines s.data.toList)]
  exact List.map_congr_left (fun x _ => ba_data x)
theorem join_lines (s : ByteArray) : joinB ⟨#[]⟩ (linesB s) = s := by
  apply ByteArray.ext
  apply Array.toList_inj.1
  rw [joinB_empty, linesB_data, lines_flatten]

set_option maxHeartbeats 2000000 in
theorem walkStop (a0 : ByteArray) (a1 : Int) (w : World) (m0 : a0.size ≤ 1048576) (w1 : (Lit.int .i64 a1).wf = true) :
    Calls Try.prog 6 #[.string a0, .int .i64 a1] w fun e w' => e = .returned (.bool true) ∧ Below w.heap.size w w' := by
  have hl := linesB_length a0
  have hl2 := seenL_le (linesB a0) a1
  have con1 := implLines a0 (by omega) 0 w
  rw [seenL_zero] at con1
  have hj := join_lines a0
  have hjs : (joinB ⟨#[]⟩ (linesB a0)).size ≤ 4611686018427387904 := by rw [hj]; omega
  have HJ := Lib.hid hj
  clear w1 hj
  go_enter Try.func6, Try.ntmps6
  go_wp2_with fail
  refine con1.mono ?_
  rintro e w1 ⟨v1, rfl, hr1, hb1⟩
  go_wp2_with fail
  refine (implLines a0 (by omega) a1 w1).mono ?_
  rintro e w2 ⟨v2, rfl, hr2, hb2⟩
  have hr1' := hr1.later hb2
  go_wp2_with fail
  refine (specSeen hr1' a1 (by omega)).mono ?_
  rintro e w3 ⟨v3, rfl, hr3, rfl⟩
  go_wp2_with fail
  refine (equal_same hr2 hr3 (by omega)).mono ?_
  rintro e w4 ⟨rfl, hb4⟩
  have hr4 := hr1'.later hb4
  go_wp2_with fail
  refine (joined_any hr4 ⟨#[]⟩ (by omega) hjs).mono ?_
  rintro e w5 ⟨rfl, rfl⟩
  rw [HJ.out]
  have z1 := hb1.size
  have z2 := hb2.size
  have fin : Below w.heap.size w w4 := (hb1.trans (hb2.mono z1)).trans (hb4.mono (by omega))
  have e1 : (a0.toList == a0.toList) = true := by simp
  clear hr1 hr2 hr3 hr1' hr4
  go_wp2
  go_ret
  exact ⟨rfl, fin⟩
end Go.Proofs.Ytjjhmgledngibaa.iters
