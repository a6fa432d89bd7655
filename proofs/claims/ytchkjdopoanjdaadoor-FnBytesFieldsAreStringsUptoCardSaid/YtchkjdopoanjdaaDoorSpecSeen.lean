/-
  The contract of spec.Seen: it returns the first pieces of a list.
-/
import Derived.Test.YtchkjdopoanjdaaDoorRow
import Derived.WalkSpells
import Derived.WalkLawsBesides
namespace Go.Proofs.YtchkjdopoanjdaaDoor.iters
open Go.RowKit
set_option linter.unusedVariables false

set_option maxHeartbeats 1000000 in
theorem specSeen {B : Nat} {v : Value} {xs : List ByteArray} {w : World} (h : StrRow w B v xs) (most : Int) (hlen : xs.length ≤ 140737488351232) :
    Calls Tryd.prog 20 #[v, .int .i64 most] w (RowPost w B (seenL xs most)) := by
  by_cases hm : 1 ≤ most ∧ most < xs.length
  · obtain ⟨k, rfl⟩ : ∃ k : Nat, most = (k : Int) := ⟨most.toNat, by omega⟩
    have hk1 : 1 ≤ k := by omega
    have hk2 : k < xs.length := by omega
    have e : seenL xs (k : Int) = xs.take k := by unfold seenL; rw [if_pos hm]; rfl
    rcases h.2 with ⟨rfl, h0⟩ | ⟨g, cap, cur, rfl, hb, hg, hc, hcm, hcs, ht⟩
    · omega
    · have fin : StrRow w B (.slice (some ⟨g, 0, none⟩) k cap) (xs.take k) := by
        refine ⟨by simp, .inr ⟨g, cap, cur, by rw [List.length_take, Nat.min_eq_left (by omega)], hb, hg, by simp; omega, hcm, hcs, ?_⟩⟩
        rw [List.length_take, Nat.min_eq_left (by omega), List.map_take, ← ht, List.take_take]
        congr 1
        omega
      have E := Lib.hid e
      have Fi := Lib.hid fin
      have l1 : (1 : Int) ≤ (k : Int) := by omega
      have l2 : (k : Int) < (xs.length : Int) := by omega
      clear e fin h hm ht hcs hg
      go_enter Tryd.func20, Tryd.ntmps20
      go_wp2
      go_ret
      exact ⟨_, rfl, by rw [E.out]; exact Fi.out, rfl⟩
  · have e : seenL xs most = xs := by unfold seenL; rw [if_neg hm]
    have E := Lib.hid e
    have Fi := Lib.hid h
    obtain ⟨q, n, c, rfl, hn⟩ : ∃ q n c, v = .slice q n c ∧ n = xs.length := by
      rcases h.form with ⟨rfl, h0⟩ | ⟨g, c, rfl, _⟩
      · exact ⟨_, _, _, rfl, by simp [h0]⟩
      · exact ⟨_, _, _, rfl, rfl⟩
    have hn' : n ≤ 140737488351232 := by omega
    by_cases h1 : 1 ≤ most
    · have h2 : (n : Int) ≤ most := by omega
      clear e h hm hn
      go_enter Tryd.func20, Tryd.ntmps20
      go_wp2
      go_ret
      exact ⟨_, rfl, by rw [E.out]; exact Fi.out, rfl⟩
    · have h2 : most < 1 := by omega
      clear e h hm hn h1
      go_enter Tryd.func20, Tryd.ntmps20
      go_wp2
      go_ret
      exact ⟨_, rfl, by rw [E.out]; exact Fi.out, rfl⟩

end Go.Proofs.YtchkjdopoanjdaaDoor.iters
