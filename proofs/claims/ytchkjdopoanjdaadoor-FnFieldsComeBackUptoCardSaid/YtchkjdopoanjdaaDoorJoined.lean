/-
  The contract of laws.joined: it puts the strings of a []string together, with a separator between them.
-/
import Derived.Test.YtchkjdopoanjdaaDoorRow
import Derived.WalkSpells
import Derived.WalkLawsBesides
import Derived.Lib.SmallJoins
import Derived.Lib.IndexBytes
import Derived.LoopTactic
namespace Go.Proofs.YtchkjdopoanjdaaDoor.iters
open Go.RowKit
set_option linter.unusedVariables false

def joinFrom (sep : ByteArray) : ByteArray → List ByteArray → ByteArray
  | acc, [] => acc
  | acc, x :: r => joinFrom sep (acc ++ sep ++ x) r
def joinB (sep : ByteArray) : List ByteArray → ByteArray
  | [] => ⟨#[]⟩
  | x :: r => joinFrom sep x r

theorem size_app (a b : ByteArray) : (a ++ b).size = a.size + b.size := ByteArray.size_append
theorem joinFrom_le (sep : ByteArray) : ∀ (r : List ByteArray) (acc : ByteArray), acc.size ≤ (joinFrom sep acc r).size
  | [], acc => Nat.le_refl _
  | x :: r, acc => by
    have := joinFrom_le sep r (acc ++ sep ++ x)
    rw [size_app, size_app] at this
    unfold joinFrom
    omega
theorem empty_app (x : ByteArray) : (⟨#[]⟩ : ByteArray) ++ x = x := by
  apply ByteArray.ext
  apply Array.toList_inj.1
  rw [Joins.data_append]
  rfl

/-- After k rounds. -/
def JoinAt (sep : ByteArray) (xs : List ByteArray) (k : Nat) (acc : ByteArray) : Prop := (k = 0 ∧ acc = ⟨#[]⟩) ∨ (1 ≤ k ∧ joinB sep xs = joinFrom sep acc (xs.drop k))
theorem JoinAt.first {sep : ByteArray} {xs : List ByteArray} (h : 0 < xs.length) : JoinAt sep xs 1 (xs.getD 0 ByteArray.empty) := by
  cases xs with
  | nil => simp at h
  | cons x r => exact .inr ⟨Nat.le_refl _, rfl⟩
theorem JoinAt.next {sep : ByteArray} {xs : List ByteArray} {k : Nat} {acc : ByteArray} (h : JoinAt sep xs k acc) (h1 : 1 ≤ k) (hk : k < xs.length) : JoinAt sep xs (k + 1) (acc ++ sep ++ xs.getD k ByteArray.empty) := by
  rcases h with ⟨h0, _⟩ | ⟨_, h⟩
  · omega
  · refine .inr ⟨by omega, ?_⟩
    rw [h, List.drop_eq_getElem_cons hk]
    simp [joinFrom, List.getD, List.getElem?_eq_getElem hk]
theorem JoinAt.fits {sep : ByteArray} {xs : List ByteArray} {k : Nat} {acc : ByteArray} (h : JoinAt sep xs k acc) (h1 : 1 ≤ k) : acc.size ≤ (joinB sep xs).size := by
  rcases h with ⟨h0, _⟩ | ⟨_, h⟩
  · omega
  · rw [h]; exact joinFrom_le _ _ _
theorem JoinAt.last {sep : ByteArray} {xs : List ByteArray} {k : Nat} {acc : ByteArray} (h : JoinAt sep xs k acc) (hk : k = xs.length) : acc = joinB sep xs := by
  rcases h with ⟨h0, h⟩ | ⟨_, h⟩
  · rw [h, List.eq_nil_of_length_eq_zero (by omega : xs.length = 0)]; rfl
  · rw [h, hk, List.drop_length]; rfl

theorem ret_string {a b : ByteArray} (h : a = b) : Ending.returned (.string a) = .returned (.string b) := by rw [h]

set_option maxHeartbeats 2000000 in
theorem joined_any {B : Nat} {v : Value} {xs : List ByteArray} {w : World} (h : StrRow w B v xs) (sep : ByteArray) (hlen : xs.length ≤ 140737488351232) (hfit : (joinB sep xs).size ≤ 4611686018427387904) :
    Calls Tryd.prog 31 #[v, .string sep] w fun e w' => e = .returned (.string (joinB sep xs)) ∧ w = w' := by
  rcases h.form with ⟨rfl, rfl⟩ | ⟨g, c, rfl, hc, _, _, hcell⟩
  · go_enter Tryd.func31, Tryd.ntmps31
    go_wp2
    go_loop [5, 10] (fun o i => o = .string ⟨#[]⟩ ∧ i = .int .i64 0) (fun _ _ => 0)
    case atStart => exact ⟨rfl, rfl⟩
    case round =>
      obtain ⟨rfl, rfl⟩ := hrel
      go_wp2
      go_ret
      exact ⟨rfl, rfl⟩
  · have HC := Lib.hid hcell
    clear hcell h
    go_enter Tryd.func31, Tryd.ntmps31
    go_wp2
    go_loop [5, 10] (fun o i => ∃ (k : Nat) (acc : ByteArray), k ≤ xs.length ∧ i = .int .i64 k ∧ o = .string acc ∧ JoinAt sep xs k acc) (fun _ i => xs.length - (intOf i).toNat)
    case atStart => exact ⟨0, _, Nat.zero_le _, rfl, rfl, .inl ⟨rfl, rfl⟩⟩
    case round =>
      obtain ⟨k, acc, hk, rfl, rfl, hj⟩ := hrel
      by_cases hlt : k < xs.length
      · have hcl := HC.out k hlt
        rw [Nat.zero_add] at hcl
        by_cases h0 : k = 0
        · subst h0
          have hz : acc = ⟨#[]⟩ := by
            rcases hj with ⟨_, h⟩ | ⟨h, _⟩
            · exact h
            · omega
          subst hz
          have h1 := JoinAt.first (sep := sep) hlt
          have hfi := h1.fits (Nat.le_refl _)
          have H1 := Lib.hid h1
          clear h1 hj
          generalize xs.getD 0 ByteArray.empty = x at *
          have hp : (0 : Int) < (xs.length : Int) := by omega
          go_wp2
          go_round
          case rel => exact ⟨1, x, by omega, by go_num, by first | rfl | rw [empty_app], H1.out⟩
          case measure => simp [intOf]; omega
        · have h1 := hj.next (by omega) hlt
          have hfi := h1.fits (by omega)
          have H1 := Lib.hid h1
          rw [size_app, size_app] at hfi
          clear h1 hj
          generalize xs.getD k ByteArray.empty = x at *
          have hkp : (0 : Int) < (k : Int) := by omega
          go_wp2
          go_round
          case rel => exact ⟨k + 1, acc ++ sep ++ x, by omega, by go_num, rfl, H1.out⟩
          case measure => simp [intOf]; omega
      · have hl := hj.last (by omega)
        have HL := Lib.hid hl
        clear hl hj
        go_wp2
        go_ret
        exact ⟨ret_string HL.out, rfl⟩
end Go.Proofs.YtchkjdopoanjdaaDoor.iters
