/-
  The contract of strings.FieldsFunc at the method value c.has: it returns a new slice of the pieces that have no code point of the class, for every string of at most 4294967296 bytes, valid UTF-8 or not.
  The walk is the kit's worked one for a plain function value, turned by program (mkff.py) to a value with a bound receiver.
-/
import Derived.Test.YtchkjdopoanjdaaDoorHas
import Derived.Test.YtchkjdopoanjdaaDoorProg
import Derived.Shelf.Strings.FieldsFuncGrows
namespace Go.Proofs.YtchkjdopoanjdaaDoor.strs
open Go.Shelf Go.RowKit Go.Lib base sets
set_option linter.unusedVariables false

theorem infoSpan : (Tryd.prog.info? 73).map (fun i => (i.zero, i.size, i.bytes)) = some (some (.agg #[.int .i64 0, .int .i64 0]), 2, 16) := by kernel_rfl
theorem infoStr : (Tryd.prog.info? 9).map (fun i => (i.zero, i.size, i.bytes)) = some (some (.string ⟨#[]⟩), 1, 16) := by kernel_rfl

/-- What the method value answers at every later world, at the code points that a decoder can hand out. -/
def BoundPred (RV : Value) (p : Nat → Bool) (w : World) : Prop := ∀ (W : World) (x : Nat), x ≤ 1114111 → Below w.heap.size w W → Calls Tryd.prog 37 #[RV, .int .i32 (x : Int)] W fun e w' => e = .returned (.bool (p x)) ∧ Below W.heap.size W w'

set_option maxHeartbeats 4000000 in
set_option maxRecDepth 1000000 in
theorem fieldsFunc_bound (RV : Value) (p : Nat → Bool) (s : ByteArray) (w : World) (hs : s.size ≤ 4294967296) (hp : BoundPred RV p w) :
    Calls Tryd.prog 38 #[.string s, .func (.func 37) #[RV] #[]] w fun e w' => ∃ A, e = .returned (.slice (some ⟨A, 0, none⟩) (Lib.goFieldsP p s).length (Lib.goFieldsP p s).length) ∧ w.heap.size ≤ A ∧
      w'.ownsRow w.heap.size 9 1 (.slice (some ⟨A, 0, none⟩) (Lib.goFieldsP p s).length (Lib.goFieldsP p s).length) (Lib.goFieldsP p s).length ((Lib.goFieldsP p s).map Value.string) ∧ Below w.heap.size w w' := by
  have hi154 := infoSpan
  have hi9 := infoStr
  have hGF : Lib.goFieldsP p s = (Lib.spansOfP p s).map fun x => s.extract x.1 x.2 := rfl
  rw [hGF, List.length_map, List.map_map]
  obtain ⟨i0, hi, hz0, hz1, hz2⟩ := info_parts hi154
  obtain ⟨W0, hmk, hown0, hg0⟩ := run_make_own (P := Tryd.prog) w w.heap.size 71 73 i0 _ 2 Tryd.underlying71 hi hz0 hz1 .i64 .i64 32 (by rw [hz2]; decide) (by unfold maxLen; decide) (Nat.le_refl _)
  rw [show ((32 : Nat) : Int) = 32 from rfl] at hmk
  have hb0 : Below w.heap.size w W0 := (Below.refl _ w).grown hg0 (Nat.le_refl _) (fun k hk => by cases hk)
  go_enter Tryd.func38, Tryd.ntmps38
  go_wp2
  go_loopg [5, 6] s.size (fun gf s5 s6 wx => ∃ (pos : Nat) (st : Option Nat) (acc : List (Nat × Nat)) (z : Int), s6 = .int .i64 z ∧ (st = none → z < 0) ∧ (∀ a, st = some a → z = (a : Int)) ∧ -9223372036854775808 ≤ z ∧
      wx.ownsRow w.heap.size 73 2 s5 acc.length (Lib.spanCells acc) ∧ wx.heap[W0.heap.size]? = some (.stringIter s pos) ∧ Below w.heap.size w wx ∧
      Lib.spansFromP p s gf pos st acc = Lib.spansFromP p s s.size 0 none [] ∧ s.size ≤ pos + gf ∧ pos ≤ s.size ∧ acc.length ≤ pos ∧ (∀ a, st = some a → a < pos) ∧ (∀ x ∈ acc, x.1 ≤ x.2 ∧ x.2 ≤ s.size) ∧ s5 ≠ .slice none 0 0)
  case atStart =>
    exact ⟨0, none, [], -1, rfl, fun _ => by omega, (fun a h => by cases h), by omega, hown0.alloc _, World.iter_heap W0 s 0, hb0.alloc hb0.size _, rfl, by omega, Nat.zero_le _, Nat.le_refl _, (fun a h => by cases h), (fun x hx => by cases hx), (fun h => by cases h)⟩
  case round =>
    obtain ⟨pos, st, acc, z, rfl, hzn, hzs, hzl, hown, hit, hbw, hsp, hfu, hps, hal, hst, hok, hnn⟩ := hrel
    by_cases hlt : pos < s.size
    · obtain ⟨g', rfl⟩ : ∃ g', gk = g' + 1 := ⟨gk - 1, by omega⟩
      have hnx : ∀ ty, (Instr.next (.pointer (some ⟨W0.heap.size, 0, none⟩)) true ty).run Tryd.prog wr = _ := fun ty => Lib.run_next_any_at wr W0.heap.size s pos ty hit hlt
      have hwd := Lib.width_pos s pos
      have hwn : pos + (Utf8.decode s pos).2 ≤ s.size := by
        have := Lib.decodeN_le_n' (s.size - pos) (s.get! pos).toNat (s.get! (pos + 1)).toNat (s.get! (pos + 2)).toNat (s.get! (pos + 3)).toNat (by omega)
        rw [← Lib.decode_at] at this
        omega
      obtain ⟨R, hR⟩ : ∃ R, (Utf8.decode s pos).1 = R := ⟨_, rfl⟩
      obtain ⟨K, hK⟩ : ∃ K, (Utf8.decode s pos).2 = K := ⟨_, rfl⟩
      simp only [Lib.spansFromP, hlt, if_true, hR, hK] at hsp
      rw [hR, hK] at hnx
      rw [hK] at hwd hwn
      have hit2 := Lib.iterAt_heap wr W0.heap.size s pos (pos + K) hit
      have hbw2 := Lib.below_iterAt hbw (k := W0.heap.size) hb0.size s (pos + K)
      have hown2 := own_iterAt hown hit (pos + K)
      obtain ⟨W, hWd⟩ : ∃ W, wr.iterAt W0.heap.size s (pos + K) = W := ⟨_, rfl⟩
      rw [hWd] at hnx hit2 hbw2 hown2
      have hITW : W0.heap.size < W.heap.size := (Array.getElem?_eq_some_iff.1 hit2).1
      have cS : Calls Tryd.prog 37 #[RV, .int .i32 (R : Int)] W _ := hp W R (by rw [← hR]; exact Lib.rune_le s pos) hbw2
      clear hp hown hit hbw
      cases hpr : p R <;> rw [hpr] at cS <;> simp only [hpr, if_true, Bool.false_eq_true, if_false] at hsp
      · cases st with
        | none =>
          have hz0' : z < 0 := hzn rfl
          go_wp2_with (go_at_call 37; go_must (refine cS.mono ?_; rintro e W' ⟨rfl, hbc⟩))
          go_roundg g'
          case measure => omega
          case rel => exact ⟨pos + K, some pos, acc, pos, rfl, (fun h => by cases h), fun a h => by cases h; rfl, by omega, own_below hown2 hbc, (hbc.block _ hITW).trans hit2, hbw2.trans (hbc.mono hbw2.size), hsp, by omega, hwn, by omega, fun a h => by cases h; omega, hok, hnn⟩
        | some a =>
          have hza : z = (a : Int) := hzs a rfl
          subst hza
          go_wp2_with (go_at_call 37; go_must (refine cS.mono ?_; rintro e W' ⟨rfl, hbc⟩))
          go_roundg g'
          case measure => omega
          case rel => exact ⟨pos + K, some a, acc, a, rfl, (fun h => by cases h), fun b h => by cases h; rfl, by omega, own_below hown2 hbc, (hbc.block _ hITW).trans hit2, hbw2.trans (hbc.mono hbw2.size), hsp, by omega, hwn, by omega, fun b h => by cases h; have := hst a rfl; omega, hok, hnn⟩
      · cases st with
        | none =>
          have hz0' : z < 0 := hzn rfl
          go_wp2_with (go_at_call 37; go_must (refine cS.mono ?_; rintro e W' ⟨rfl, hbc⟩))
          go_roundg g'
          case measure => omega
          case rel => exact ⟨pos + K, none, acc, z, rfl, fun _ => hz0', (fun a h => by cases h), hzl, own_below hown2 hbc, (hbc.block _ hITW).trans hit2, hbw2.trans (hbc.mono hbw2.size), hsp, by omega, hwn, by omega, (fun a h => by cases h), hok, hnn⟩
        | some a =>
          have hza : z = (a : Int) := hzs a rfl
          subst hza
          go_wp2_with (first
            | (go_at_call 37; go_must (refine cS.mono ?_; rintro e W' ⟨rfl, hbc⟩))
            | (at_builtin; go_must (refine wpList_append_own _ rfl (.tmp 24) (.tmp 28) 71 rfl w.heap.size 73 i0 (.agg #[.int .i64 0, .int .i64 0]) 2 16 Tryd.underlying71 hi hz0 hz1 hz2 rfl (by decide) _ _ _ rfl ((own_below hown2 hbc).alloc _) ⟨W'.heap.size, 0, none⟩ 1 1 [.int .i64 (a : Int), .int .i64 (pos : Int)] rfl rfl (cell_two_new' _ _ _ _) (by intro u hu; simp at hu; rcases hu with rfl | rfl <;> rfl) (by unfold maxLen; omega) (by omega) (by have := hbw2.size; have := hbc.size; simp; omega) ?_; intro v3 w3 hown3 hgrow3 hnil3)))
          rw [i64_not a (by have := hst a rfl; omega)]
          go_roundg g'
          case measure => omega
          case rel =>
            have hIT : W0.heap.size < W.heap.size := (Array.getElem?_eq_some_iff.1 hit2).1
            have hap := hst a rfl
            have hit3 : W'.heap[W0.heap.size]? = some (.stringIter s (pos + K)) := (hbc.block _ hITW).trans hit2
            have hIT' : W0.heap.size < W'.heap.size := (Array.getElem?_eq_some_iff.1 hit3).1
            have hX := (own_below hown2 hbc).alloc (.cells #[.int .i64 (a : Int), .int .i64 (pos : Int)] 73)
            refine ⟨pos + K, none, acc ++ [(a, pos)], -1 - (a : Int), rfl, fun _ => by omega, (fun b h => by cases h), by omega, by rw [List.length_append, Lib.spanCells_snoc]; exact hown3, ?_, ?_, hsp, by omega, hwn, by simp; omega, (fun b h => by cases h), ?_, fun h => by have := (hnil3.1 h).2; omega⟩
            · exact (hgrow3.block W0.heap.size (by simp; omega) (own_ne_iter (own_below hown2 hbc) hit3)).trans ((Below.heap_alloc _ _ _ hIT').trans hit3)
            · exact ((hbw2.trans (hbc.mono hbw2.size)).alloc (by have := hbw2.size; have := hbc.size; omega) _).grown hgrow3 (by have := hbw2.size; have := hbc.size; simp; omega) (fun j hj => (hX.lt j hj).1)
            · intro x hx
              rcases List.mem_append.1 hx with h | h
              · exact hok x h
              · simp at h; subst h; have := hst a rfl; exact ⟨by simp; omega, by simp; omega⟩
    · obtain rfl : pos = s.size := by omega
      have hnx : ∀ ty, (Instr.next (.pointer (some ⟨W0.heap.size, 0, none⟩)) true ty).run Tryd.prog wr = _ := fun ty => Lib.run_next_end_at wr W0.heap.size s s.size ty hit hlt
      rw [Lib.spansFromP_end p s gk _ _ _ hlt] at hsp
      have hSP : Lib.spansOfP p s = Lib.closeSpans s (acc, st) := by unfold Lib.spansOfP; rw [← hsp]
      have hokS : ∀ x ∈ Lib.spansOfP p s, x.1 ≤ x.2 ∧ x.2 ≤ s.size := by
        rw [hSP]
        cases st with
        | none => exact hok
        | some a =>
          intro x hx
          rcases List.mem_append.1 hx with h | h
          · exact hok x h
          · simp at h; subst h; have := hst a rfl; exact ⟨by simp; omega, by simp⟩
      have hlenS : (Lib.spansOfP p s).length ≤ s.size + 1 := by
        rw [hSP]
        cases st with
        | none => show acc.length ≤ _; omega
        | some a => show (acc ++ [(a, s.size)]).length ≤ _; simp; omega
      clear hp
      go_upto_if 36 with fail
      go_cut [5] (fun s5 wx => wx.ownsRow w.heap.size 73 2 s5 (Lib.spansOfP p s).length (Lib.spanCells (Lib.spansOfP p s)) ∧ Below w.heap.size w wx ∧ s5 ≠ .slice none 0 0)
      case first =>
        cases st with
        | none =>
          have hz0' : z < 0 := hzn rfl
          go_wp2_with fail
          go_meet
          exact ⟨by rw [hSP]; exact hown, hbw, hnn⟩
        | some a =>
          have hza : z = (a : Int) := hzs a rfl
          subst hza
          go_wp2_with (at_builtin; go_must (refine wpList_append_own _ rfl (.tmp 37) (.tmp 42) 71 rfl w.heap.size 73 i0 (.agg #[.int .i64 0, .int .i64 0]) 2 16 Tryd.underlying71 hi hz0 hz1 hz2 rfl (by decide) _ _ _ rfl (hown.alloc _) ⟨wr.heap.size, 0, none⟩ 1 1 [.int .i64 (a : Int), .int .i64 (s.size : Int)] rfl rfl (cell_two_new' _ _ _ _) (by intro u hu; simp at hu; rcases hu with rfl | rfl <;> rfl) (by unfold maxLen; omega) (by omega) (by have := hbw.size; simp; omega) ?_; intro v3 w3 hown3 hgrow3 hnil3))
          go_wp2_with fail
          go_meet
          have hX := hown.alloc (.cells #[.int .i64 (a : Int), .int .i64 (s.size : Int)] 73)
          exact ⟨by rw [hSP]; show w3.ownsRow _ _ _ _ (acc ++ [(a, s.size)]).length (Lib.spanCells (acc ++ [(a, s.size)])); rw [List.length_append, Lib.spanCells_snoc]; exact hown3,
            (hbw.alloc hbw.size _).grown hgrow3 (by have := hbw.size; simp; omega) (fun j hj => (hX.lt j hj).1), fun h => by have := (hnil3.1 h).2; omega⟩
      case rest =>
        obtain ⟨hownS, hbS, hnnS⟩ := hcut
        obtain ⟨SP, hSPe⟩ : ∃ SP, Lib.spansOfP p s = SP := ⟨_, rfl⟩
        rw [hSPe] at hownS hokS hlenS
        clear hSP hsp hown hit hbw hok hnn
        obtain ⟨g5, cap5, rfl⟩ : ∃ g5 cap5, u5 = .slice (some ⟨g5, 0, none⟩) SP.length cap5 := by
          rcases hownS.2 with ⟨h, _⟩ | ⟨g5, cap5, _, h, _⟩
          · exact absurd h hnnS
          · exact ⟨g5, cap5, h⟩
        have hg5 : g5 < wc.heap.size := (hownS.lt g5 rfl).2
        obtain ⟨i9, hi9', hz90, hz91, hz92⟩ := info_parts hi9
        obtain ⟨W5, hmk5, hown5, hgr5⟩ := run_make_full (P := Tryd.prog) wc w.heap.size 25 9 i9 _ 1 Tryd.underlying25 hi9' hz90 hz91 .i64 .i64 SP.length (by rw [hz92]; omega) (by unfold maxLen; omega) hbS.size
        have hS5 := hownS.kept hgr5 (Classical.em _)
        have hb5 : Below w.heap.size w W5 := hbS.grown hgr5 hbS.size (fun k hk => by cases hk)
        rw [show (Value.string ⟨#[]⟩).cells = #[Value.string ⟨#[]⟩] from rfl, Nat.mul_one, toList_madeCells_one, ← Lib.rowAt_zero s SP] at hown5
        go_wp2
        go_loopg [49] SP.length (fun gf s49 wx => ∃ i : Nat, i + gf = SP.length ∧ s49 = .int .i64 i ∧ wx.ownsRow w.heap.size 9 1 (.slice (some ⟨wc.heap.size, 0, none⟩) SP.length SP.length) SP.length (Lib.rowAt s SP i) ∧
          wx.ownsRow w.heap.size 73 2 (.slice (some ⟨g5, 0, none⟩) SP.length cap5) SP.length (Lib.spanCells SP) ∧ Below w.heap.size w wx)
        case atStart => exact ⟨0, by omega, rfl, hown5, hS5, hb5⟩
        case round =>
          obtain ⟨i, hig, rfl, hA, hS, hbr⟩ := hrel
          cases gk with
          | zero =>
            have hin : ¬ ((i : Int) < (SP.length : Int)) := by omega
            obtain rfl : i = SP.length := by omega
            go_wp2
            go_ret
            rw [Lib.rowAt_all] at hA
            subst hSPe
            exact ⟨wc.heap.size, rfl, hbS.size, hA, hbr⟩
          | succ gf =>
            have hin : (i : Int) < (SP.length : Int) := by omega
            obtain ⟨x, hx⟩ : ∃ x, SP[i]? = some x := ⟨_, List.getElem?_eq_getElem (by omega)⟩
            have hxo := hokS x (List.mem_of_getElem? hx)
            have hc0 : wr.cell? ⟨g5, i * 2, none⟩ = some (.int .i64 x.1) := (hS.cellAt (i * 2) (by omega)).trans (Lib.spanCells_at SP i x hx).1
            have hc1 : wr.cell? ⟨g5, i * 2 + 1, none⟩ = some (.int .i64 x.2) := (hS.cellAt (i * 2 + 1) (by omega)).trans (Lib.spanCells_at SP i x hx).2
            have hA' := hA.alloc (.cells #[.int .i64 (x.1 : Int), .int .i64 (x.2 : Int)] 73)
            have hS' := hS.alloc (.cells #[.int .i64 (x.1 : Int), .int .i64 (x.2 : Int)] 73)
            obtain ⟨old, hold⟩ : ∃ old, (Lib.rowAt s SP i)[i]? = some old := ⟨_, List.getElem?_eq_getElem (by have := hA.1; omega)⟩
            have hcA := (hA'.cellAt i (by omega)).trans hold
            have hfA := hA'.frozenAt i
            go_wp2
            go_roundg gf
            case measure => omega
            case rel =>
              have hst' := hA'.stored i (.string (s.extract x.1 x.2))
              rw [Lib.rowAt_set s SP i x hx] at hst'
              refine ⟨i + 1, by omega, by go_num, ?_, ?_, ?_⟩
              · exact hst'.1
              · exact hS'.kept hst'.2 (by simp [Value.ownBlock]; omega)
              · exact (hbr.alloc hbr.size _).grown hst'.2 (by have := hbr.size; simp; omega) (fun k hk => by cases hk; exact hbS.size)
end Go.Proofs.YtchkjdopoanjdaaDoor.strs
