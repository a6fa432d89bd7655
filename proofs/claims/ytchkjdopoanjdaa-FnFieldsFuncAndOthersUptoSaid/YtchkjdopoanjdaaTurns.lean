/-
  Contracts of slices.Index and slices.Contains at []rune, and of laws.turns.
-/
import Derived.Test.YtchkjdopoanjdaaHas
import Derived.Test.YtchkjdopoanjdaaRow
import Derived.Lib.SmallJoins
import Derived.Lib.IndexBytes
namespace Go.Proofs.Ytchkjdopoanjdaa.iters
open Go.RowKit base sets
set_option linter.unusedVariables false

def IndexPost (xs : List Int) (r : Int) (w : World) (e : Ending) (w' : World) : Prop := ∃ z : Int, e = .returned (.int .i64 z) ∧ decide (0 ≤ z) = hasI xs false r ∧ w = w'
theorem IndexPost.yes {xs : List Int} {r : Int} {w : World} (k : Nat) (h : hasI xs false r = true) : IndexPost xs r w (.returned (.int .i64 k)) w := ⟨k, rfl, by rw [h]; simp, rfl⟩
theorem IndexPost.no {xs : List Int} {r : Int} {w : World} (h : hasI xs false r = false) : IndexPost xs r w (.returned (.int .i64 (-1))) w := ⟨-1, rfl, by rw [h]; decide, rfl⟩

set_option maxHeartbeats 1000000 in
theorem slicesIndex {w : World} {a : Option Addr} {l c : Nat} {zs : List Int} (h : IsRow .i32 w a l c zs) (r : Int) :
    Calls Try.prog 15 #[.slice a l c, .int .i32 r] w (IndexPost (zs.take l) r w) := by
  rcases Nat.eq_zero_or_pos l with h0 | hpos
  · subst h0
    have e : hasI (zs.take 0) false r = false := hasI_no (fun j hj => by simp at hj)
    have E := Lib.hid e
    clear e
    go_enter Try.func15, Try.ntmps15
    go_wp2
    go_loop [8] (fun i => i = .int .i64 0) (fun _ => 0)
    case atStart => rfl
    case round =>
      subst hrel
      go_wp2
      go_ret
      exact IndexPost.no E.out
  · obtain ⟨b, o, rfl, hx, hcell⟩ := row_cells h hpos
    obtain ⟨hlc, hm⟩ := row_cap h
    unfold maxLen at hm
    have HC := Lib.hid hcell
    clear hcell h
    generalize zs.take l = xs at *
    go_enter Try.func15, Try.ntmps15
    go_wp2
    go_loop [8] (fun i => ∃ k : Nat, k ≤ l ∧ i = .int .i64 k ∧ ∀ j, j < k → (xs.getD j 0 == r) = false) (fun i => l - (intOf i).toNat)
    case atStart => exact ⟨0, Nat.zero_le _, rfl, fun j hj => absurd hj (Nat.not_lt_zero _)⟩
    case round =>
      obtain ⟨k, hk, rfl, hno⟩ := hrel
      have HN := Lib.hid hno
      clear hno
      by_cases hlt : k < l
      · have hcl := HC.out k hlt
        cases ht : (xs.getD k 0 == r)
        · have HT : Hid (∀ j, j < k + 1 → (xs.getD j 0 == r) = false) := fun j hj => by
            by_cases e : j = k
            · subst e; exact ht
            · exact HN.out j (by omega)
          clear HN
          generalize hy : xs.getD k 0 = y at hcl ht
          clear hy
          have ht' : (r == y) = false := by rw [BEq.comm]; exact ht
          clear ht
          go_wp2
          go_round
          case rel => exact ⟨k + 1, by omega, by go_num, HT.out⟩
          case measure => simp [intOf]; omega
        · have HT := Lib.hid (hasI_yes (neg := false) (by omega : k < xs.length) ht)
          generalize xs.getD k 0 = y at *
          have ht' : (r == y) = true := by rw [BEq.comm]; exact ht
          clear ht
          go_wp2
          go_ret
          exact IndexPost.yes k HT.out
      · have HT := Lib.hid (hasI_no (neg := false) (fun j hj => HN.out j (by omega) : ∀ j, j < xs.length → (xs.getD j 0 == r) = false))
        go_wp2
        go_ret
        exact IndexPost.no HT.out

theorem slicesContains {w : World} {a : Option Addr} {l c : Nat} {zs : List Int} (h : IsRow .i32 w a l c zs) (r : Int) :
    Calls Try.prog 10 #[.slice a l c, .int .i32 r] w fun e w' => e = .returned (.bool (hasI (zs.take l) false r)) ∧ w' = w := by
  have con := slicesIndex h r
  clear h
  go_enter Try.func10, Try.ntmps10
  go_wp2_with fail
  refine con.mono ?_
  rintro e w' ⟨z, rfl, hz, rfl⟩
  have HZ := Lib.hid hz
  clear hz con
  go_wp2
  go_ret
  exact ⟨by rw [← HZ.out]; rfl, rfl⟩

def turnsB : List ByteArray → List ByteArray → ByteArray
  | [], [] => ⟨#[]⟩
  | x :: xs, [] => x ++ turnsB xs []
  | [], y :: ys => y ++ turnsB [] ys
  | x :: xs, y :: ys => (x ++ y) ++ turnsB xs ys
def TurnAt (xs ys : List ByteArray) (k : Nat) (acc : ByteArray) : Prop := acc ++ turnsB (xs.drop k) (ys.drop k) = turnsB xs ys
theorem ba_assoc (a b c : ByteArray) : a ++ b ++ c = a ++ (b ++ c) := by
  apply ByteArray.ext
  apply Array.toList_inj.1
  simp only [Joins.data_append, List.append_assoc]
theorem ba_empty (x : ByteArray) : x ++ (⟨#[]⟩ : ByteArray) = x := by
  apply ByteArray.ext
  apply Array.toList_inj.1
  rw [Joins.data_append]
  simp
theorem ba_empty' (x : ByteArray) : (⟨#[]⟩ : ByteArray) ++ x = x := by
  apply ByteArray.ext
  apply Array.toList_inj.1
  rw [Joins.data_append]
  simp
theorem TurnAt.start (xs ys : List ByteArray) : TurnAt xs ys 0 ⟨#[]⟩ := ba_empty' _
theorem drop_cons {xs : List ByteArray} {k : Nat} (h : k < xs.length) : xs.drop k = xs.getD k ByteArray.empty :: xs.drop (k + 1) := by
  rw [List.drop_eq_getElem_cons h]
  simp [List.getD, List.getElem?_eq_getElem h]
theorem TurnAt.both {xs ys : List ByteArray} {k : Nat} {acc : ByteArray} (h : TurnAt xs ys k acc) (h1 : k < xs.length) (h2 : k < ys.length) : TurnAt xs ys (k + 1) (acc ++ xs.getD k ByteArray.empty ++ ys.getD k ByteArray.empty) := by
  unfold TurnAt at *
  rw [drop_cons h1, drop_cons h2, turnsB, ← ba_assoc, ← ba_assoc] at h
  exact h
theorem TurnAt.left {xs ys : List ByteArray} {k : Nat} {acc : ByteArray} (h : TurnAt xs ys k acc) (h1 : k < xs.length) (h2 : ¬ k < ys.length) : TurnAt xs ys (k + 1) (acc ++ xs.getD k ByteArray.empty) := by
  unfold TurnAt at *
  rw [drop_cons h1, List.drop_eq_nil_of_le (by omega : ys.length ≤ k), turnsB, ← ba_assoc] at h
  rw [List.drop_eq_nil_of_le (by omega : ys.length ≤ k + 1)]
  exact h
theorem TurnAt.right {xs ys : List ByteArray} {k : Nat} {acc : ByteArray} (h : TurnAt xs ys k acc) (h1 : ¬ k < xs.length) (h2 : k < ys.length) : TurnAt xs ys (k + 1) (acc ++ ys.getD k ByteArray.empty) := by
  unfold TurnAt at *
  rw [drop_cons h2, List.drop_eq_nil_of_le (by omega : xs.length ≤ k), turnsB, ← ba_assoc] at h
  rw [List.drop_eq_nil_of_le (by omega : xs.length ≤ k + 1)]
  exact h
theorem TurnAt.last {xs ys : List ByteArray} {k : Nat} {acc : ByteArray} (h : TurnAt xs ys k acc) (h1 : ¬ k < xs.length) (h2 : ¬ k < ys.length) : acc = turnsB xs ys := by
  unfold TurnAt at h
  rw [List.drop_eq_nil_of_le (by omega : xs.length ≤ k), List.drop_eq_nil_of_le (by omega : ys.length ≤ k), turnsB, ba_empty] at h
  exact h
theorem TurnAt.fits {xs ys : List ByteArray} {k : Nat} {acc : ByteArray} (h : TurnAt xs ys k acc) : acc.size ≤ (turnsB xs ys).size := by
  unfold TurnAt at h
  rw [← h, ByteArray.size_append]
  omega

theorem ret_str {a b : ByteArray} (h : a = b) : Ending.returned (.string a) = .returned (.string b) := by rw [h]
/-- A []string's cells, whether it is nil or not. -/
def CellsAt (w : World) (a : Option Addr) (xs : List ByteArray) : Prop := ∀ k, k < xs.length → ∃ g, a = some ⟨g, 0, none⟩ ∧ w.cell? ⟨g, k, none⟩ = some (.string (xs.getD k ByteArray.empty))
theorem StrRow.cellsAt {w : World} {B : Nat} {v : Value} {xs : List ByteArray} (h : StrRow w B v xs) : ∃ a c, v = .slice a xs.length c ∧ CellsAt w a xs := by
  rcases h.form with ⟨rfl, rfl⟩ | ⟨g, c, rfl, _, _, _, hcell⟩
  · exact ⟨_, _, rfl, fun k hk => absurd hk (Nat.not_lt_zero _)⟩
  · exact ⟨_, _, rfl, fun k hk => ⟨g, rfl, by have := hcell k hk; rwa [Nat.zero_add] at this⟩⟩

set_option maxHeartbeats 2000000 in
theorem turns_any {B1 B2 : Nat} {v1 v2 : Value} {xs ys : List ByteArray} {w : World} (h1 : StrRow w B1 v1 xs) (h2 : StrRow w B2 v2 ys) (l1 : xs.length ≤ 140737488351232) (l2 : ys.length ≤ 140737488351232) (hfit : (turnsB xs ys).size ≤ 4611686018427387904) :
    Calls Try.prog 11 #[v1, v2] w fun e w' => e = .returned (.string (turnsB xs ys)) ∧ w = w' := by
  obtain ⟨a1, c1, rfl, H1⟩ := h1.cellsAt
  obtain ⟨a2, c2, rfl, H2⟩ := h2.cellsAt
  clear h1 h2
  have HA := Lib.hid H1
  have HB := Lib.hid H2
  clear H1 H2
  go_enter Try.func11, Try.ntmps11
  go_wp2
  go_loop [5, 12] (fun o i => ∃ (k : Nat) (acc : ByteArray), k ≤ max xs.length ys.length ∧ i = .int .i64 k ∧ o = .string acc ∧ TurnAt xs ys k acc) (fun _ i => max xs.length ys.length - (intOf i).toNat)
  case atStart => exact ⟨0, _, Nat.zero_le _, rfl, rfl, TurnAt.start xs ys⟩
  case round =>
    obtain ⟨k, acc, hk, rfl, rfl, hj⟩ := hrel
    have hm : (max (xs.length : Int) (ys.length : Int)) = ((max xs.length ys.length : Nat) : Int) := by omega
    rw [hm]
    by_cases t1 : k < xs.length
    · obtain ⟨g1, rfl, hcl1⟩ := HA.out k t1
      by_cases t2 : k < ys.length
      · obtain ⟨g2, rfl, hcl2⟩ := HB.out k t2
        have h1 := hj.both t1 t2
        have hfi := h1.fits
        rw [ByteArray.size_append, ByteArray.size_append] at hfi
        have N := Lib.hid h1
        clear h1 hj
        have hk' : k < max xs.length ys.length := by omega
        generalize xs.getD k ByteArray.empty = x at *
        generalize ys.getD k ByteArray.empty = y at *
        go_wp2
        go_round
        case rel => exact ⟨k + 1, acc ++ x ++ y, by omega, by go_num, rfl, N.out⟩
        case measure => simp [intOf]; omega
      · have h1 := hj.left t1 t2
        have hfi := h1.fits
        rw [ByteArray.size_append] at hfi
        have N := Lib.hid h1
        clear h1 hj
        have hk' : k < max xs.length ys.length := by omega
        generalize xs.getD k ByteArray.empty = x at *
        go_wp2
        go_round
        case rel => exact ⟨k + 1, acc ++ x, by omega, by go_num, rfl, N.out⟩
        case measure => simp [intOf]; omega
    · by_cases t2 : k < ys.length
      · obtain ⟨g2, rfl, hcl2⟩ := HB.out k t2
        have h1 := hj.right t1 t2
        have hfi := h1.fits
        rw [ByteArray.size_append] at hfi
        have N := Lib.hid h1
        clear h1 hj
        have hk' : k < max xs.length ys.length := by omega
        generalize ys.getD k ByteArray.empty = y at *
        go_wp2
        go_round
        case rel => exact ⟨k + 1, acc ++ y, by omega, by go_num, rfl, N.out⟩
        case measure => simp [intOf]; omega
      · have N := Lib.hid (hj.last t1 t2)
        clear hj
        have hk' : ¬ k < max xs.length ys.length := by omega
        go_wp2
        go_ret
        exact ⟨ret_str N.out, rfl⟩
end Go.Proofs.Ytchkjdopoanjdaa.iters
