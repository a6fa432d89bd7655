/-
  The walk of laws.FnBytesEndsAreStrings: it returns true, for all strings.
-/
import Derived.Test.YtenamlnlpbogcaaBytes
import Derived.Lib.ConvBytes
import Derived.Laws.AppendOwn
namespace Go.Proofs.Ytenamlnlpbogcaa.ends
open Go.RowKit cuts
set_option linter.unusedVariables false

/-- A string's bytes as numbers. -/
def nums (s : ByteArray) : List Int := s.data.toList.map fun b => (b.toNat : Int)
theorem nums_length (s : ByteArray) : (nums s).length = s.size := by rw [nums, List.length_map, ← Lib.size_eq]
theorem str_nums (s : ByteArray) : strOfNums (nums s) = s := by
  unfold strOfNums nums
  rw [List.map_map]
  have : ((fun n : Int => UInt8.ofNat n.toNat) ∘ fun b : UInt8 => (b.toNat : Int)) = id := by funext b; simp
  rw [this, List.map_id]
theorem nums_in (w W : World) (s : ByteArray) (g : Nat) (h : ∀ j, j < s.size → W.cell? ⟨g, j, none⟩ = some (.int .u8 (s.data.toList.getD j 0).toNat)) : Lib.BytesIn W (some ⟨g, 0, none⟩) s.size (nums s) := fun hn => by
  refine ⟨g, 0, rfl, fun i hi => ?_⟩
  rw [Nat.zero_add, h i hi]
  have hi' : i < s.data.toList.length := by rw [← Lib.size_eq]; exact hi
  simp [nums, List.getD, List.getElem?_map, List.getElem?_eq_getElem hi']

set_option maxHeartbeats 1000000 in
theorem implCutPrefix (s p : ByteArray) (w : World) :
    Calls Try.prog 12 #[.string s, .string p] w fun e w' => e = .returned (.tuple #[.string (preS s p), .bool (preB s p)]) ∧ w = w' := by
  have con : Calls Try.prog 21 #[.string s, .string p] w fun e w' => e = .returned (.tuple #[.string (preS s p), .bool (preB s p)]) ∧ w = w' := (Try.strings_CutPrefix s p w).mono fun e w' ⟨h, hw⟩ => ⟨h, hw.symm⟩
  generalize preS s p = A at *
  generalize preB s p = B at *
  go_enter Try.func12, Try.ntmps12
  go_wp2_with (go_at_call 21; refine con.mono ?_; rintro e w' ⟨rfl, rfl⟩)
  go_ret2
  exact ⟨rfl, rfl⟩
set_option maxHeartbeats 1000000 in
theorem implCutSuffix (s p : ByteArray) (w : World) (hs : s.size ≤ 9223372036854775807) :
    Calls Try.prog 14 #[.string s, .string p] w fun e w' => e = .returned (.tuple #[.string (sufS s p), .bool (sufB s p)]) ∧ w = w' := by
  have con : Calls Try.prog 23 #[.string s, .string p] w fun e w' => e = .returned (.tuple #[.string (sufS s p), .bool (sufB s p)]) ∧ w = w' := (Try.strings_CutSuffix s p w hs).mono fun e w' ⟨h, hw⟩ => ⟨h, hw.symm⟩
  generalize sufS s p = A at *
  generalize sufB s p = B at *
  go_enter Try.func14, Try.ntmps14
  go_wp2_with (go_at_call 23; refine con.mono ?_; rintro e w' ⟨rfl, rfl⟩)
  go_ret2
  exact ⟨rfl, rfl⟩

theorem preS_miss (s p : ByteArray) (h : preB s p = false) : ((preS s p).toList == s.toList) = true := by
  unfold preB at h
  unfold preS Lib.trimPrefix
  rw [h]
  simp
theorem sufS_miss (s p : ByteArray) (h : sufB s p = false) : ((sufS s p).toList == s.toList) = true := by
  unfold sufB at h
  unfold sufS Lib.trimSuffix
  rw [h]
  simp

set_option maxHeartbeats 2000000 in
set_option maxRecDepth 100000 in
theorem walk (a0 a1 : ByteArray) (w : World) (m0 : a0.size ≤ 140737488351232) (m1 : a1.size ≤ 140737488351232) :
    Calls Try.prog 11 #[.string a0, .string a1] w fun e w' => e = .returned (.bool true) ∧ Below w.heap.size w w' := by
  have kb := fun (W : World) (s : ByteArray) => Lib.run_convert_string_bytes (P := Try.prog) W 9 25 5 s Try.underlying9 Try.underlying25 Try.underlying5
  have hsz : (Lib.bytesWorld w 5 a0).heap.size = w.heap.size + 1 := Lib.bytesWorld_size _ _ _
  have bel : Below w.heap.size w (Lib.bytesWorld (Lib.bytesWorld w 5 a0) 5 a1) := (Joins.below_bytesWorld _ w 5 a0 (Nat.le_refl _)).trans (Joins.below_bytesWorld _ _ 5 a1 (by rw [hsz]; omega))
  have b0 : Lib.BytesIn (Lib.bytesWorld (Lib.bytesWorld w 5 a0) 5 a1) (some ⟨w.heap.size, 0, none⟩) a0.size (nums a0) := nums_in w _ a0 _ fun j hj => by
    rw [Lib.bytesWorld_old _ _ _ _ (by rw [hsz]; exact Nat.lt_succ_self _)]
    exact Lib.bytesWorld_cell w 5 a0 j hj
  have b1 : Lib.BytesIn (Lib.bytesWorld (Lib.bytesWorld w 5 a0) 5 a1) (some ⟨w.heap.size + 1, 0, none⟩) a1.size (nums a1) := nums_in w _ a1 _ fun j hj => by
    have := Lib.bytesWorld_cell (Lib.bytesWorld w 5 a0) 5 a1 j hj
    rwa [hsz] at this
  have g0 := grownCap_ge w a0.size 0 5
  have con1 := fun d => implBytesCutPrefix (some ⟨w.heap.size, 0, none⟩) (some ⟨w.heap.size + 1, 0, none⟩) a0.size (grownCap w a0.size 0 5) a1.size d (nums a0) (nums a1) _ (nums_length a0) (nums_length a1) g0 b0 b1
  have con2 := fun d => implBytesCutSuffix (some ⟨w.heap.size, 0, none⟩) (some ⟨w.heap.size + 1, 0, none⟩) a0.size (grownCap w a0.size 0 5) a1.size d (nums a0) (nums a1) _ (nums_length a0) (nums_length a1) g0 (by omega) b0 b1
  have con3 := fun W => implCutPrefix a0 a1 W
  have con4 := fun W => implCutSuffix a0 a1 W (by omega)
  rw [str_nums, str_nums] at con1 con2
  have e1 := preS_miss a0 a1
  have e2 := sufS_miss a0 a1
  generalize preS a0 a1 = A at *
  generalize preB a0 a1 = B at *
  generalize sufS a0 a1 = C at *
  generalize sufB a0 a1 = D at *
  have s1 : (A.toList == A.toList) = true := by simp
  have s2 : (C.toList == C.toList) = true := by simp
  clear b0 b1 g0
  cases B <;> cases D <;> simp only [forall_const, Bool.true_eq_false, false_implies] at e1 e2
  all_goals
    go_enter Try.func11, Try.ntmps11
    go_wp2_with (first | (go_at_call 16; refine (con1 _).mono ?_; rintro e w' ⟨rfl, rfl⟩) | (go_at_call 17; refine (con2 _).mono ?_; rintro e w' ⟨rfl, rfl⟩) | (go_at_call 12; refine (con3 _).mono ?_; rintro e w' ⟨rfl, rfl⟩) | (go_at_call 14; refine (con4 _).mono ?_; rintro e w' ⟨rfl, rfl⟩))
    go_ret
    exact ⟨rfl, bel⟩
end Go.Proofs.Ytenamlnlpbogcaa.ends
