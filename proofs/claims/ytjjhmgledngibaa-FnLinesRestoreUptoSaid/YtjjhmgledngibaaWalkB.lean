/-
  The walk of laws.FnLinesRestore: it returns true, for strings of at most 1048576 bytes.
-/
import Derived.Test.YtjjhmgledngibaaWalkA
import Derived.LoopTactic
namespace Go.Proofs.Ytjjhmgledngibaa.iters
open Go.RowKit plain
set_option linter.unusedVariables false

/-- Every line has a newline at its end alone; the last one may lack it; none is empty. -/
def LinesOk (xs : List (List UInt8)) : Prop := ∀ (i : Nat) (x : List UInt8), xs[i]? = some x → x ≠ [] ∧ (Lib.indexByte x 10 = (x.length : Int) - 1 ∨ (Lib.indexByte x 10 = -1 ∧ i + 1 = xs.length))
theorem indexByte_take : ∀ (l : List UInt8) (o : Nat), Lib.indexByte l 10 = (o : Int) → Lib.indexByte (l.take (o + 1)) 10 = (o : Int)
  | [], o, h => by simp [Lib.indexByte] at h
  | c :: l, o, h => by
    unfold Lib.indexByte at h
    by_cases hc : (c == 10) = true
    · rw [if_pos hc] at h
      obtain rfl : o = 0 := by omega
      rw [List.take_succ_cons, Lib.indexByte, if_pos hc]
      rfl
    · rw [if_neg hc] at h
      by_cases h1 : (Lib.indexByte l 10 == -1) = true
      · rw [if_pos h1] at h; omega
      · rw [if_neg h1] at h
        obtain ⟨o', rfl⟩ : ∃ o', o = o' + 1 := ⟨o - 1, by have := Lib.indexByte_ge l 10; simp at h1; omega⟩
        have ih := indexByte_take l o' (by omega)
        rw [List.take_succ_cons, Lib.indexByte, if_neg hc, ih, if_neg (by simp)]
        omega
theorem lines_ok : ∀ (n : Nat) (l : List UInt8), l.length ≤ n → LinesOk (lines l)
  | n, l, hn => by
    by_cases hl : l = []
    · subst hl
      intro i x h
      simp [lines, linesGo] at h
    · rcases Int.lt_or_le (Lib.indexByte l 10) 0 with hneg | hpos
      · have hm : Lib.indexByte l 10 = -1 := by have := Lib.indexByte_ge l 10; omega
        rw [lines_miss l hm hl]
        intro i x h
        cases i with
        | zero =>
          simp at h
          subst h
          exact ⟨hl, .inr ⟨hm, rfl⟩⟩
        | succ i => simp at h
      · obtain ⟨o, ho⟩ : ∃ o : Nat, Lib.indexByte l 10 = (o : Int) := ⟨(Lib.indexByte l 10).toNat, by omega⟩
        have hol : o < l.length := (List.getElem?_eq_some_iff.1 (Lib.indexByte_some ho).1).1
        match n, hn with
        | 0, hn => omega
        | n + 1, hn =>
          have ih := lines_ok n (l.drop (o + 1)) (by rw [List.length_drop]; omega)
          rw [lines_hit l o ho]
          intro i x h
          cases i with
          | zero =>
            simp at h
            subst h
            refine ⟨fun e => ?_, .inl ?_⟩
            · have h0 := congrArg List.length e
              rw [List.length_take, Nat.min_eq_left (by omega), List.length_nil] at h0
              omega
            · rw [indexByte_take l o ho, List.length_take, Nat.min_eq_left (by omega)]
              omega
          | succ i =>
            rw [List.getElem?_cons_succ] at h
            obtain ⟨h1, h2⟩ := ih i x h
            refine ⟨h1, ?_⟩
            rcases h2 with h2 | ⟨h2, h3⟩
            · exact .inl h2
            · exact .inr ⟨h2, by rw [List.length_cons]; omega⟩

theorem nl_at (s : ByteArray) (k : Nat) (h : k < s.size) : ((s.extract k (k + 1)).toList == [10]) = (s[k] == 10) := by
  rw [Lib.toList_data, Lib.extract_data, drop_at s k h, Nat.add_sub_cancel_left]
  simp

/-- No newline stands before k. -/
def NoNl (s : ByteArray) (k : Nat) : Prop := ∀ j, j < k → s.data.toList[j]? ≠ some 10
theorem byte_at (s : ByteArray) (k : Nat) (h : k < s.size) : s.data.toList[k]? = some s[k] := by
  rw [List.getElem?_eq_getElem (by rw [← Lib.size_eq]; exact h)]; rfl
theorem NoNl.next {s : ByteArray} {k : Nat} (h : NoNl s k) (hk : k < s.size) (hc : (s[k] == 10) = false) : NoNl s (k + 1) := by
  intro j hj
  by_cases e : j = k
  · subst e
    rw [byte_at s j hk]
    intro e'
    simp at e'
    simp [e'] at hc
  · exact h j (by omega)
theorem NoNl.found {s : ByteArray} {k : Nat} (h : NoNl s k) (hk : k < s.size) (hc : (s[k] == 10) = true) : (k : Int) = Lib.indexByte s.data.toList 10 := by
  rcases Int.lt_or_le (Lib.indexByte s.data.toList 10) 0 with hneg | hpos
  · have hm : Lib.indexByte s.data.toList 10 = -1 := by have := Lib.indexByte_ge s.data.toList 10; omega
    exact absurd (byte_at s k hk) (by have := Lib.indexByte_none hm k; simp at hc; rw [hc]; exact this)
  · obtain ⟨o, ho⟩ : ∃ o : Nat, Lib.indexByte s.data.toList 10 = (o : Int) := ⟨(Lib.indexByte s.data.toList 10).toNat, by omega⟩
    obtain ⟨h1, h2⟩ := Lib.indexByte_some ho
    have a1 : ¬ o < k := fun hlt => h o hlt h1
    have a2 : ¬ k < o := fun hlt => h2 k hlt (by rw [byte_at s k hk]; simp at hc; rw [hc])
    omega
theorem NoNl.none {s : ByteArray} {k : Nat} (h : NoNl s k) (hk : s.size ≤ k) : (-1 : Int) = Lib.indexByte s.data.toList 10 := by
  rcases Int.lt_or_le (Lib.indexByte s.data.toList 10) 0 with hneg | hpos
  · have := Lib.indexByte_ge s.data.toList 10; omega
  · obtain ⟨o, ho⟩ : ∃ o : Nat, Lib.indexByte s.data.toList 10 = (o : Int) := ⟨(Lib.indexByte s.data.toList 10).toNat, by omega⟩
    obtain ⟨h1, _⟩ := Lib.indexByte_some ho
    have hol := (List.getElem?_eq_some_iff.1 h1).1
    rw [← Lib.size_eq] at hol
    exact absurd h1 (h o (by omega))

theorem ret_int {k : IntKind} {a b : Int} (h : a = b) : Ending.returned (.int k a) = .returned (.int k b) := by rw [h]

set_option maxHeartbeats 2000000 in
theorem specFirst (s : ByteArray) (hs : s.size ≤ 1048576) (w : World) :
    Calls Try.prog 9 #[.string s, .string ⟨#[10]⟩, .int .i64 0] w fun e w' => e = .returned (.int .i64 (Lib.indexByte s.data.toList 10)) ∧ w = w' := by
  go_enter Try.func9, Try.ntmps9
  go_wp2
  go_loop [7] (fun i => ∃ k : Nat, k ≤ s.size + 1 ∧ i = .int .i64 k ∧ NoNl s k) (fun i => s.size + 1 - (intOf i).toNat)
  case atStart => exact ⟨0, Nat.zero_le _, rfl, fun j hj => absurd hj (Nat.not_lt_zero _)⟩
  case round =>
    obtain ⟨k, hk, rfl, hno⟩ := hrel
    by_cases hlt : k < s.size
    · have hb := nl_at s k hlt
      cases hc : (s[k] == 10)
      · have HN := Lib.hid (hno.next hlt hc)
        rw [hc] at hb
        clear hno hc
        go_wp2
        go_round
        case rel => exact ⟨k + 1, by omega, by go_num, HN.out⟩
        case measure => simp [intOf]; omega
      · have HN := Lib.hid (hno.found hlt hc)
        rw [hc] at hb
        clear hno hc
        go_wp2
        go_ret
        exact ⟨ret_int HN.out, rfl⟩
    · by_cases he : k = s.size
      · have HN : Hid (NoNl s (k + 1)) := fun j hj => by
          by_cases e : j = k
          · subst e
            rw [List.getElem?_eq_none (by rw [← Lib.size_eq]; omega)]
            simp
          · exact hno j (by omega)
        have l1 : (k : Int) ≤ (s.size : Int) := by omega
        have l2 : ¬ (k : Int) + 1 ≤ (s.size : Int) := by omega
        clear hno he hlt
        go_wp2
        go_round
        case rel => exact ⟨k + 1, by omega, by go_num, HN.out⟩
        case measure => simp [intOf]; omega
      · have HN := Lib.hid (hno.none (by omega))
        have l1 : ¬ (k : Int) ≤ (s.size : Int) := by omega
        clear hno
        go_wp2
        go_ret
        exact ⟨ret_int HN.out, rfl⟩

theorem lineB_ok (s : ByteArray) (i : Nat) (hi : i < (linesB s).length) : ((linesB s).getD i ByteArray.empty).toList.isEmpty = false ∧ ((linesB s).getD i ByteArray.empty).toList ≠ [] ∧ ((linesB s).getD i ByteArray.empty).size ≤ s.size ∧
    (Lib.indexByte ((linesB s).getD i ByteArray.empty).data.toList 10 = (((linesB s).getD i ByteArray.empty).size : Int) - 1 ∨ (Lib.indexByte ((linesB s).getD i ByteArray.empty).data.toList 10 = -1 ∧ i + 1 = (linesB s).length)) := by
  have hl : i < (lines s.data.toList).length := by unfold linesB at hi; rwa [List.length_map] at hi
  have e : (linesB s).getD i ByteArray.empty = ba ((lines s.data.toList)[i]) := by
    unfold linesB
    simp [List.getD, List.getElem?_eq_getElem hl]
  obtain ⟨h1, h2⟩ := lines_ok _ s.data.toList (Nat.le_refl _) i _ (List.getElem?_eq_getElem hl)
  have hsz : ((lines s.data.toList)[i]).length ≤ s.size := by
    have hmem : (lines s.data.toList)[i] ∈ lines s.data.toList := List.getElem_mem hl
    have := (List.sublist_flatten_of_mem hmem).length_le
    rwa [lines_flatten, ← Lib.size_eq] at this
  rw [e, Lib.toList_data, ba_data, ba_size]
  refine ⟨by simpa using h1, h1, hsz, ?_⟩
  rcases h2 with h2 | ⟨h2, h3⟩
  · exact .inl h2
  · exact .inr ⟨h2, by unfold linesB; rw [List.length_map]; exact h3⟩

set_option maxHeartbeats 4000000 in
theorem walkRestore (a0 : ByteArray) (w : World) (m0 : a0.size ≤ 1048576) :
    Calls Try.prog 3 #[.string a0] w fun e w' => e = .returned (.bool true) ∧ Below w.heap.size w w' := by
  have hl := linesB_length a0
  have con1 := implLines a0 (by omega) 0 w
  rw [seenL_zero] at con1
  have hj := join_lines a0
  have hjs : (joinB ⟨#[]⟩ (linesB a0)).size ≤ 4611686018427387904 := by rw [hj]; omega
  have HJ := Lib.hid hj
  have LOK := Lib.hid (lineB_ok a0)
  clear hj
  go_enter Try.func3, Try.ntmps3
  go_wp2_with fail
  refine con1.mono ?_
  rintro e w1 ⟨v1, rfl, hr1, hb1⟩
  have conJ := joined_any hr1 ⟨#[]⟩ (by omega) hjs
  rw [HJ.out] at conJ
  have CJ := Lib.hid conJ
  have hR := Lib.hid hr1
  have e1 : (a0.toList == a0.toList) = true := by simp
  clear conJ
  generalize hX : linesB a0 = xs at *
  have HX := Lib.hid hX
  clear hX
  rcases hr1.form with ⟨rfl, rfl⟩ | ⟨g, c, rfl, hc, _, _, hcell⟩
  · clear hr1
    go_wp2_with fail
    go_loop [11] (fun i => i = .int .i64 0) (fun _ => 0)
    case atStart => rfl
    case round =>
      subst hrel
      go_wp2_with (go_at_call 10; refine CJ.out.mono ?_; rintro e w2 ⟨rfl, rfl⟩)
      go_ret
      exact ⟨rfl, hb1⟩
  · have HC := Lib.hid hcell
    clear hcell hr1
    go_wp2_with fail
    go_loop [11] (fun i => ∃ k : Nat, k ≤ xs.length ∧ i = .int .i64 k) (fun i => xs.length - (intOf i).toNat)
    case atStart => exact ⟨0, Nat.zero_le _, rfl⟩
    case round =>
      obtain ⟨k, hk, rfl⟩ := hrel
      by_cases hlt : k < xs.length
      · have hcl := HC.out k hlt
        rw [Nat.zero_add] at hcl
        obtain ⟨q1, q2, q3, q4⟩ := LOK.out k hlt
        generalize xs.getD k ByteArray.empty = x at *
        have con := specFirst x (by omega) w1
        generalize Lib.indexByte x.data.toList 10 = ix at *
        have hx0 : 0 < x.size := by
          rcases Nat.eq_zero_or_pos x.size with h0 | h0
          · exact absurd (by rw [Lib.toList_data]; exact List.eq_nil_of_length_eq_zero (by rw [← Lib.size_eq]; exact h0)) q2
          · exact h0
        rcases q4 with rfl | ⟨rfl, hlast⟩
        · have t1 : (0 : Int) ≤ (x.size : Int) - 1 := by omega
          have t2 : (((x.size : Int) - 1) != (x.size : Int) - 1) = false := by simp
          go_wp2_with (go_at_call 9; refine con.mono ?_; rintro e w2 ⟨rfl, rfl⟩)
          go_round
          case rel => exact ⟨k + 1, by omega, by go_num⟩
          case measure => simp [intOf]; omega
        · have t1 : ¬ (k : Int) < (xs.length : Int) - 1 := by omega
          clear hlast
          go_wp2_with (go_at_call 9; refine con.mono ?_; rintro e w2 ⟨rfl, rfl⟩)
          go_round
          case rel => exact ⟨k + 1, by omega, by go_num⟩
          case measure => simp [intOf]; omega
      · go_wp2_with (go_at_call 10; refine CJ.out.mono ?_; rintro e w2 ⟨rfl, rfl⟩)
        go_ret
        exact ⟨rfl, hb1⟩
end Go.Proofs.Ytjjhmgledngibaa.iters
