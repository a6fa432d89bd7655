/-
  The contract of spec.Lines: it returns the lines of the string, each one with the newline that ends it.
-/
import Derived.Test.YtjjhmgledngibaaStrs
import Derived.Test.YtjjhmgledngibaaPlain
import Derived.LoopTactic
import Derived.OwnWalk
import Derived.Outline
namespace Go.Proofs.Ytjjhmgledngibaa.iters
open Go.RowKit plain
set_option linter.unusedVariables false

theorem row_snoc {W w1 : World} {B : Nat} {v v' : Value} {acc : List ByteArray} {x : ByteArray} (h : w1.ownsRow B 9 1 v' (acc.length + 1) (acc.map Value.string ++ [.string x])) : StrRow w1 B v' (acc ++ [x]) := by
  unfold StrRow
  rw [List.length_append, List.map_append]
  exact h

set_option maxHeartbeats 4000000 in
theorem specLines (s : ByteArray) (hs : s.size ≤ 8388608) (w : World) : Calls Try.prog 14 #[.string s] w (StrPost w (linesB s)) := by
  obtain ⟨i0, hi, hz0, hz1, hz2⟩ := info_parts infoS
  go_enter Try.func14, Try.ntmps14
  go_wp2
  go_loopw [3, 4, 8] (fun o f i wr => ∃ (k beg : Nat) (acc : List ByteArray), i = .int .i64 k ∧ f = .int .i64 beg ∧ k ≤ s.size ∧ beg ≤ k ∧ acc.length ≤ k ∧ LinesAt s k beg acc ∧ StrRow wr w.heap.size o acc ∧ Below w.heap.size w wr)
    (fun _ _ i _ => s.size - (intOf i).toNat)
  case atStart => exact ⟨0, 0, [], rfl, rfl, Nat.zero_le _, Nat.le_refl _, Nat.le_refl _, LinesAt.start s, StrRow.empty _ _, Below.refl _ _⟩
  case round =>
    obtain ⟨k, beg, acc, rfl, rfl, hk, hbk, hak, hat, hrow, hB⟩ := hrel
    have hBz := hB.size
    by_cases hlt : k < s.size
    · cases ht : ((s[k].toNat : Int) == 10)
      · have hm := hat.miss hlt (fun e => by rw [e] at ht; simp at ht)
        have HM := Lib.hid hm
        clear hm hat
        go_wp2
        go_roundw
        case rel => exact ⟨k + 1, beg, acc, by go_num, rfl, by omega, by omega, by omega, HM.out, hrow, hB⟩
        case measure => simp [intOf]; omega
      · have hm := hat.hit hlt (by
          have h10 : (s[k].toNat : Int) = 10 := by simpa using ht
          exact UInt8.toNat_inj.1 (by show s[k].toNat = 10; omega))
        have HM := Lib.hid hm
        clear hm hat
        go_wp2_with (at_builtin; refine wpList_append_own _ rfl _ _ 22 rfl w.heap.size 9 i0 (.string ⟨#[]⟩) 1 16 Try.underlying22 hi hz0 hz1 hz2 rfl (by decide) _ _ _ rfl (World.ownsRow.alloc hrow _) ⟨wr.heap.size, 0, none⟩ 1 1 [.string (s.extract beg (k + 1))] rfl rfl (cell_one_new _ _ _) (by simp [Value.oneCell']) (by unfold maxLen; omega) (by omega) (by simp; omega) ?_; intro v' w1 hown' hgrow _)
        have hB1 : Below w.heap.size w w1 := (hB.alloc hBz _).grown hgrow (by simp; omega) (fun j hj => (World.ownsRow.lt hrow j hj).1)
        go_wp2
        go_roundw
        case rel => exact ⟨k + 1, k + 1, _, by go_num, by go_num, by omega, by omega, by simp; omega, HM.out, row_snoc (W := wr) (v := .bool true) hown', hB1⟩
        case measure => simp [intOf]; omega
    · by_cases hbs : beg < s.size
      · have hm := hat.last_some (by omega) hbs
        have HM := Lib.hid hm
        clear hm hat
        go_wp2_with (at_builtin; refine wpList_append_own _ rfl _ _ 22 rfl w.heap.size 9 i0 (.string ⟨#[]⟩) 1 16 Try.underlying22 hi hz0 hz1 hz2 rfl (by decide) _ _ _ rfl (World.ownsRow.alloc hrow _) ⟨wr.heap.size, 0, none⟩ 1 1 [.string (s.extract beg s.size)] rfl rfl (cell_one_new _ _ _) (by simp [Value.oneCell']) (by unfold maxLen; omega) (by omega) (by simp; omega) ?_; intro v' w1 hown' hgrow _)
        have hB1 : Below w.heap.size w w1 := (hB.alloc hBz _).grown hgrow (by simp; omega) (fun j hj => (World.ownsRow.lt hrow j hj).1)
        go_wp2
        go_ret
        exact ⟨_, rfl, by rw [← HM.out]; exact row_snoc (W := wr) (v := .bool true) hown', hB1⟩
      · have hm := hat.last_none (by omega) hbs
        have HM := Lib.hid hm
        clear hm hat
        go_wp2
        go_ret
        exact ⟨_, rfl, by rw [← HM.out]; exact hrow, hB⟩
end Go.Proofs.Ytjjhmgledngibaa.iters
