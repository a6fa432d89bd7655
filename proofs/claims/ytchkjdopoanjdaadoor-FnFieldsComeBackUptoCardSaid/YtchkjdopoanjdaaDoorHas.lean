/-
  Contracts of spec.has and (impl.Class).has: whether a code point is in a set, or, with 'not', whether it is not.
-/
import Derived.Test.YtchkjdopoanjdaaDoorBase
import Derived.Test.YtchkjdopoanjdaaDoorProg
import Derived.WalkKit
import Derived.LoopTactic
import Derived.WalkSpells
import Derived.WalkLawsBesides
import Derived.Lib.Hide
namespace Go.Proofs.YtchkjdopoanjdaaDoor.sets
open Go.RowKit base
set_option linter.unusedVariables false

/-- The class, as a function on code points. -/
def hasI (xs : List Int) (neg : Bool) (r : Int) : Bool := if xs.contains r then !neg else neg
theorem hasI_yes {xs : List Int} {neg : Bool} {r : Int} {k : Nat} (hk : k < xs.length) (he : (xs.getD k 0 == r) = true) : hasI xs neg r = !neg := by
  unfold hasI
  rw [if_pos]
  rw [List.contains_iff_mem]
  have : xs.getD k 0 = r := by simpa using he
  rw [← this]
  simp [List.getD, List.getElem?_eq_getElem hk]
theorem hasI_no {xs : List Int} {neg : Bool} {r : Int} (h : ∀ j, j < xs.length → (xs.getD j 0 == r) = false) : hasI xs neg r = neg := by
  unfold hasI
  rw [if_neg]
  rw [List.contains_iff_mem]
  intro hm
  obtain ⟨j, hj, e⟩ := List.getElem_of_mem hm
  have := h j hj
  rw [List.getD, List.getElem?_eq_getElem hj] at this
  simp [e] at this

theorem row_cells {k : IntKind} {w : World} {a : Option Addr} {l c : Nat} {zs : List Int} (h : IsRow k w a l c zs) (hl : 0 < l) : ∃ b o, a = some ⟨b, o, none⟩ ∧ (zs.take l).length = l ∧ ∀ i, i < l → w.cell? ⟨b, o + i, none⟩ = some (.int k ((zs.take l).getD i 0)) := by
  rcases h with ⟨_, rfl, _⟩ | ⟨x, rfl, hlc, hm, hz, hcell, _⟩
  · exact absurd hl (Nat.lt_irrefl 0)
  · obtain ⟨b, o, sp⟩ := x
    obtain rfl : sp = none := by simpa [Addr.add] using World.cell?_spot (hcell 0 (by omega))
    refine ⟨b, o, rfl, by rw [List.length_take]; omega, fun i hi => ?_⟩
    rw [← Go.WideShapes.add_plain, hcell i (by omega)]
    simp [List.getD, hi]
theorem row_cap {k : IntKind} {w : World} {a : Option Addr} {l c : Nat} {zs : List Int} (h : IsRow k w a l c zs) : l ≤ c ∧ c ≤ maxLen := by
  rcases h with ⟨_, rfl, rfl, _⟩ | ⟨x, _, hlc, hm, _⟩
  · exact ⟨Nat.le_refl _, Nat.zero_le _⟩
  · exact ⟨hlc, hm⟩

set_option maxHeartbeats 1000000 in
theorem specHas {w : World} {a : Option Addr} {l c : Nat} {zs : List Int} (h : IsRow .i32 w a l c zs) (neg : Bool) (r : Int) :
    Calls Tryd.prog 40 #[.slice a l c, .bool neg, .int .i32 r] w fun e w' => e = .returned (.bool (hasI (zs.take l) neg r)) ∧ w = w' := by
  rcases Nat.eq_zero_or_pos l with h0 | hpos
  · subst h0
    have e : hasI (zs.take 0) neg r = neg := hasI_no (fun j hj => by simp at hj)
    rw [e]
    clear e
    go_enter Tryd.func40, Tryd.ntmps40
    go_wp2
    go_loop [11] (fun i => i = .int .i64 0) (fun _ => 0)
    case atStart => rfl
    case round =>
      subst hrel
      go_wp2
      go_ret
      exact ⟨rfl, rfl⟩
  · obtain ⟨b, o, rfl, hx, hcell⟩ := row_cells h hpos
    obtain ⟨hlc, hm⟩ := row_cap h
    unfold maxLen at hm
    have HC := Lib.hid hcell
    clear hcell h
    generalize zs.take l = xs at *
    go_enter Tryd.func40, Tryd.ntmps40
    go_wp2
    go_loop [11] (fun i => ∃ k : Nat, k ≤ l ∧ i = .int .i64 k ∧ ∀ j, j < k → (xs.getD j 0 == r) = false) (fun i => l - (intOf i).toNat)
    case atStart => exact ⟨0, Nat.zero_le _, rfl, fun j hj => absurd hj (Nat.not_lt_zero _)⟩
    case round =>
      obtain ⟨k, hk, rfl, hno⟩ := hrel
      have HN := Lib.hid hno
      clear hno
      by_cases hlt : k < l
      · have hcl := HC.out k hlt
        cases ht : (xs.getD k 0 == r)
        · have HT : Hid (∀ j, j < k + 1 → (xs.getD j 0 == r) = false) := fun j hj => by
            by_cases e : j = k
            · subst e; exact ht
            · exact HN.out j (by omega)
          clear HN
          generalize hy : xs.getD k 0 = y at hcl ht
          clear hy
          go_wp2
          go_round
          case rel => exact ⟨k + 1, by omega, by go_num, HT.out⟩
          case measure => simp [intOf]; omega
        · have HT := Lib.hid (hasI_yes (neg := neg) (by omega : k < xs.length) ht)
          generalize xs.getD k 0 = y at *
          go_wp2
          go_ret
          exact ⟨by rw [HT.out]; rfl, rfl⟩
      · have HT := Lib.hid (hasI_no (neg := neg) (fun j hj => HN.out j (by omega) : ∀ j, j < xs.length → (xs.getD j 0 == r) = false))
        go_wp2
        go_ret
        exact ⟨by rw [HT.out]; rfl, rfl⟩

set_option maxHeartbeats 1000000 in
theorem classHas {w : World} {a : Option Addr} {l c : Nat} {zs : List Int} (h : IsRow .i32 w a l c zs) (neg : Bool) (r : Int) :
    Calls Tryd.prog 37 #[.agg #[.slice a l c, .bool neg], .int .i32 r] w fun e w' => e = .returned (.bool (hasI (zs.take l) neg r)) ∧ w.alloc (.cells #[.slice a l c, .bool neg] 24) = w' := by
  rcases Nat.eq_zero_or_pos l with h0 | hpos
  · subst h0
    have e : hasI (zs.take 0) neg r = neg := hasI_no (fun j hj => by simp at hj)
    rw [e]
    clear e
    go_enter Tryd.func37, Tryd.ntmps37
    go_wp2
    go_loop [10] (fun i => i = .int .i64 0) (fun _ => 0)
    case atStart => rfl
    case round =>
      subst hrel
      go_wp2
      go_ret
      exact ⟨rfl, rfl⟩
  · obtain ⟨b, o, rfl, hx, hcell⟩ := row_cells h hpos
    obtain ⟨hlc, hm⟩ := row_cap h
    unfold maxLen at hm
    have HC := Lib.hid hcell
    clear hcell h
    generalize zs.take l = xs at *
    go_enter Tryd.func37, Tryd.ntmps37
    go_wp2
    go_loop [10] (fun i => ∃ k : Nat, k ≤ l ∧ i = .int .i64 k ∧ ∀ j, j < k → (xs.getD j 0 == r) = false) (fun i => l - (intOf i).toNat)
    case atStart => exact ⟨0, Nat.zero_le _, rfl, fun j hj => absurd hj (Nat.not_lt_zero _)⟩
    case round =>
      obtain ⟨k, hk, rfl, hno⟩ := hrel
      have HN := Lib.hid hno
      clear hno
      by_cases hlt : k < l
      · have hcl : (w.alloc (.cells #[.slice (some ⟨b, o, none⟩) l c, .bool neg] 24)).cell? ⟨b, o + k, none⟩ = some (.int .i32 (xs.getD k 0)) := Lib.cell?_alloc_some _ (HC.out k hlt)
        cases ht : (xs.getD k 0 == r)
        · have HT : Hid (∀ j, j < k + 1 → (xs.getD j 0 == r) = false) := fun j hj => by
            by_cases e : j = k
            · subst e; exact ht
            · exact HN.out j (by omega)
          clear HN
          generalize hy : xs.getD k 0 = y at hcl ht
          clear hy
          go_wp2
          go_round
          case rel => exact ⟨k + 1, by omega, by go_num, HT.out⟩
          case measure => simp [intOf]; omega
        · have HT := Lib.hid (hasI_yes (neg := neg) (by omega : k < xs.length) ht)
          generalize xs.getD k 0 = y at *
          go_wp2
          go_ret
          exact ⟨by rw [HT.out]; rfl, rfl⟩
      · have HT := Lib.hid (hasI_no (neg := neg) (fun j hj => HN.out j (by omega) : ∀ j, j < xs.length → (xs.getD j 0 == r) = false))
        go_wp2
        go_ret
        exact ⟨by rw [HT.out]; rfl, rfl⟩
end Go.Proofs.YtchkjdopoanjdaaDoor.sets
