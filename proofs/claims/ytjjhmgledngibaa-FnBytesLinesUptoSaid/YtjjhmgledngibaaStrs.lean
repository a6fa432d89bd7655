/-
  Contracts over []string values of the call's own: slices.Equal of two that hold the same strings is true; spec.Seen returns the first pieces; laws.joined puts them together.
-/
import Derived.Test.YtjjhmgledngibaaSeen
import Derived.Test.YtjjhmgledngibaaShelf
import Derived.Lib.SmallJoins
import Derived.Lib.IndexBytes
import Derived.Laws.OwnMore
import Derived.WalkSpells
import Derived.WalkLawsBesides
namespace Go.Proofs.Ytjjhmgledngibaa.iters
open Go.RowKit
set_option linter.unusedVariables false

theorem StrRow.form {W : World} {B : Nat} {v : Value} {xs : List ByteArray} (h : StrRow W B v xs) :
    (v = .slice none 0 0 ∧ xs = []) ∨ ∃ g c, v = .slice (some ⟨g, 0, none⟩) xs.length c ∧ xs.length ≤ c ∧ B ≤ g ∧ g < W.heap.size ∧ ∀ j, j < xs.length → W.cell? ⟨g, 0 + j, none⟩ = some (.string (xs.getD j ByteArray.empty)) := by
  have h0 := h
  rcases h.2 with ⟨rfl, hn⟩ | ⟨g, cap, cur, rfl, hb, hg, hc, _⟩
  · exact .inl ⟨rfl, List.eq_nil_of_length_eq_zero hn⟩
  · refine .inr ⟨g, cap, rfl, hc, hb, (Array.getElem?_eq_some_iff.1 hg).1, fun j hj => ?_⟩
    rw [Nat.zero_add, World.ownsRow.cellAt h0 j (by omega)]
    simp [List.getD, List.getElem?_eq_getElem hj]
theorem StrRow.later {w w' : World} {B : Nat} {v : Value} {xs : List ByteArray} (h : StrRow w B v xs) (hb : Below w.heap.size w w') : StrRow w' B v xs := by
  refine ⟨h.1, ?_⟩
  rcases h.2 with h | ⟨g, cap, cur, hv, hB, hg, r⟩
  · exact .inl h
  · exact .inr ⟨g, cap, cur, hv, hB, (hb.block g (Array.getElem?_eq_some_iff.1 hg).1).trans hg, r⟩
theorem StrRow.empty (w : World) (B : Nat) : StrRow w B (.slice none 0 0) [] := World.ownsRow_nil _ _ _ _

theorem equal_same {B1 B2 : Nat} {v1 v2 : Value} {xs : List ByteArray} {w : World} (h1 : StrRow w B1 v1 xs) (h2 : StrRow w B2 v2 xs) (hlen : xs.length ≤ 140737488351232) :
    Calls Try.prog 11 #[v1, v2] w fun e w' => e = .returned (.bool true) ∧ Below w.heap.size w w' := by
  by_cases hx : xs = []
  · subst hx
    obtain ⟨a1, c1, rfl⟩ : ∃ a c, v1 = .slice a 0 c := by
      rcases h1.form with ⟨rfl, _⟩ | ⟨g, c, rfl, _⟩ <;> exact ⟨_, _, rfl⟩
    obtain ⟨a2, c2, rfl⟩ : ∃ a c, v2 = .slice a 0 c := by
      rcases h2.form with ⟨rfl, _⟩ | ⟨g, c, rfl, _⟩ <;> exact ⟨_, _, rfl⟩
    refine (Try.slices_Equal_string_empty a1 a2 c1 0 c2 w (by omega)).mono fun e w' ⟨he, hw⟩ => ?_
    subst hw
    exact ⟨he, Below.refl _ _⟩
  · have hp : xs.length ≠ 0 := fun e => hx (List.eq_nil_of_length_eq_zero e)
    rcases h1.form with ⟨_, e⟩ | ⟨g1, c1, rfl, _, _, _, hc1⟩
    · exact absurd e hx
    rcases h2.form with ⟨_, e⟩ | ⟨g2, c2, rfl, _, _, _, hc2⟩
    · exact absurd e hx
    refine (Try.slices_Equal_string g1 0 xs.length c1 g2 0 xs.length c2 xs xs w (Nat.le_refl _) (Nat.le_refl _) (by omega) (by omega) hc1 hc2).mono fun e w' ⟨he, q, hw⟩ => ?_
    subst hw
    refine ⟨by rw [he]; simp, ?_⟩
    exact ⟨rfl, rfl, rfl, Nat.le_refl _, fun _ _ => rfl⟩

/-- The call hands back a row, in the memory of the one that came in or a part of it. -/
def RowPost (w : World) (B : Nat) (xs : List ByteArray) (e : Ending) (w' : World) : Prop := ∃ v, e = .returned v ∧ StrRow w' B v xs ∧ w = w'
set_option maxHeartbeats 1000000 in
theorem specSeen {B : Nat} {v : Value} {xs : List ByteArray} {w : World} (h : StrRow w B v xs) (most : Int) (hlen : xs.length ≤ 140737488351232) :
    Calls Try.prog 13 #[v, .int .i64 most] w (RowPost w B (seenL xs most)) := by
  by_cases hm : 1 ≤ most ∧ most < xs.length
  · obtain ⟨k, rfl⟩ : ∃ k : Nat, most = (k : Int) := ⟨most.toNat, by omega⟩
    have hk1 : 1 ≤ k := by omega
    have hk2 : k < xs.length := by omega
    have e : seenL xs (k : Int) = xs.take k := by unfold seenL; rw [if_pos hm]; rfl
    rcases h.2 with ⟨rfl, h0⟩ | ⟨g, cap, cur, rfl, hb, hg, hc, hcm, hcs, ht⟩
    · omega
    · have fin : StrRow w B (.slice (some ⟨g, 0, none⟩) k cap) (xs.take k) := by
        refine ⟨by simp, .inr ⟨g, cap, cur, by rw [List.length_take, Nat.min_eq_left (by omega)], hb, hg, by simp; omega, hcm, hcs, ?_⟩⟩
        rw [List.length_take, Nat.min_eq_left (by omega), List.map_take, ← ht, List.take_take]
        congr 1
        omega
      have E := Lib.hid e
      have Fi := Lib.hid fin
      have l1 : (1 : Int) ≤ (k : Int) := by omega
      have l2 : (k : Int) < (xs.length : Int) := by omega
      clear e fin h hm ht hcs hg
      go_enter Try.func13, Try.ntmps13
      go_wp2
      go_ret
      exact ⟨_, rfl, by rw [E.out]; exact Fi.out, rfl⟩
  · have e : seenL xs most = xs := by unfold seenL; rw [if_neg hm]
    have E := Lib.hid e
    have Fi := Lib.hid h
    obtain ⟨q, n, c, rfl, hn⟩ : ∃ q n c, v = .slice q n c ∧ n = xs.length := by
      rcases h.form with ⟨rfl, h0⟩ | ⟨g, c, rfl, _⟩
      · exact ⟨_, _, _, rfl, by simp [h0]⟩
      · exact ⟨_, _, _, rfl, rfl⟩
    have hn' : n ≤ 140737488351232 := by omega
    by_cases h1 : 1 ≤ most
    · have h2 : (n : Int) ≤ most := by omega
      clear e h hm hn
      go_enter Try.func13, Try.ntmps13
      go_wp2
      go_ret
      exact ⟨_, rfl, by rw [E.out]; exact Fi.out, rfl⟩
    · have h2 : most < 1 := by omega
      clear e h hm hn h1
      go_enter Try.func13, Try.ntmps13
      go_wp2
      go_ret
      exact ⟨_, rfl, by rw [E.out]; exact Fi.out, rfl⟩
end Go.Proofs.Ytjjhmgledngibaa.iters
