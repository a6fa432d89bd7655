/-
  strings.Lines: the iterator that it returns yields the lines of the string; impl.Lines returns the first of them, as many as one asks for.
-/
import Derived.Test.YtjjhmgledngibaaSeen
import Derived.Test.YtjjhmgledngibaaShelf
import Derived.Test.YtjjhmgledngibaaPlain
import Derived.RegionIn
import Derived.BigRegionIn
import Derived.Laws.DeepStrings4
namespace Go.Proofs.Ytjjhmgledngibaa.iters
open Go.RowKit Go.Shelf plain
set_option linter.unusedVariables false
attribute [local go_sem] Oper.semAt_some

/-- How many bytes the captured string still has. -/
def left (Bs : Nat) (W : World) : Nat := match W.cell? ⟨Bs, 0, none⟩ with | some (.string t) => t.size | _ => 0
theorem left_eq {Bs : Nat} {W : World} {t : ByteArray} (h : W.cell? ⟨Bs, 0, none⟩ = some (.string t)) : left Bs W = t.size := by simp [left, h]

/-- How an iterator's call ends. -/
def IterPost {α : Type} (xs : List α) (J Jx : List α → World → Prop) (e : Ending) (W' : World) : Prop := (∃ v, e = .returned v) ∧ ((∃ ys, ys = xs ∧ J ys W') ∨ (∃ pre, pre <+: xs ∧ Jx pre W'))
/-- How a round ends. -/
def RoundPost {α : Type} (n0 : Nat) (pre : List α) (J Jx : List α → World → Prop) (W1 : World) (e : Ending) (W' : World) : Prop := (e = .returned (.bool true) ∧ J pre W' ∧ Below n0 W1 W') ∨ (e = .returned (.bool false) ∧ Jx pre W')

set_option maxRecDepth 100000 in
set_option maxHeartbeats 4000000 in
theorem lines1_in (l Bs n0 : Nat) (s : ByteArray) (hs : s.size ≤ 140737488351232) (J Jx : List ByteArray → World → Prop) (aJ : Abides Bs J) (aJx : Abides Bs Jx)
    (hY : ∀ pre x W1, J pre W1 → pre.length < (linesB s).length → (pre ++ [x] = linesB s ∨ pre ++ [x] <+: linesB s) → YieldAt Fence.wide 1 Try.prog l #[.string x] W1 (RoundPost n0 (pre ++ [x]) J Jx W1))
    (W : World) (hB : Boxed W Bs 9 (.string s)) (hBs : Bs < n0) (h0 : J [] W) :
    CallsIn Fence.wide 2 Try.prog 20 #[.func (.yield l) #[] #[], .pointer (some ⟨Bs, 0, none⟩)] W (IterPost (linesB s) J Jx) := by
  refine callsIn_of_wp Try.func20 rfl trivial ?_ rfl
  simp only [Try.ntmps20, List.size_toArray, List.length_cons, List.length_nil, Nat.reduceAdd, Nat.reduceSub, Array.replicate_succ, Array.replicate_zero, List.push_toArray, List.append_toArray, List.nil_append, List.cons_append]
  gi_wp2
  gi_loopw [3] (fun _ wr => ∃ (pre : List ByteArray) (t : ByteArray), Boxed wr Bs 9 (.string t) ∧ t.size ≤ 140737488351232 ∧ linesB s = pre ++ linesB t ∧ J pre wr)
    (fun _ wr => left Bs wr)
  case atStart =>
    exact ⟨[], s, hB, hs, rfl, h0⟩
  case round =>
    obtain ⟨pre, t, hb, ht, hx, hJ⟩ := hrel
    have hc := hb.cell
    have hf := hb.frozen
    by_cases hz : t.size = 0
    · have hx2 := hx
      rw [linesB_empty t hz, List.append_nil] at hx2
      have hz' : ¬ (0 : Int) < (t.size : Int) := by omega
      have hX := Lib.hid hx2
      clear hx hx2 hz
      gi_wp2
      go_end0
      exact ⟨⟨_, rfl⟩, .inl ⟨pre, hX.out.symm, hJ⟩⟩
    · have hp : (0 : Int) < (t.size : Int) := by omega
      rcases Int.lt_or_le (Lib.indexByte t.data.toList 10) 0 with hneg | hpos
      · -- no newline is left
        have hm : Lib.indexByte t.data.toList 10 = -1 := by have := Lib.indexByte_ge t.data.toList 10; omega
        have con : Calls Try.prog 21 #[.string t, .int .u8 10] wr fun e w' => e = .returned (.int .i64 (-1)) ∧ wr = w' := (Try.strings_IndexByte t 10 wr).mono fun e w' ⟨he, hw⟩ => ⟨by rw [← hm]; exact he, hw.symm⟩
        have hl := linesB_miss t hm (by omega)
        have hx2 : linesB s = pre ++ [t] := by rw [hx, hl]
        have g1 := grownBy_setCell' wr Bs (.string ⟨#[]⟩)
        have b1 := hb.set (.string ⟨#[]⟩)
        obtain ⟨fn, tmps, assign, body, hy, hR⟩ := hY pre t _ (aJ _ _ _ hJ g1) (by rw [hx2]; simp) (.inl hx2.symm)
        have hX := Lib.hid hx2
        have hL0 := Lib.hid (left_eq hc)
        clear hx hx2 hm hneg hl hz
        gi_wp2_with (refine ⟨trivial, ?_⟩; gi_at_call 21; refine (callsIn_wide.2 con).mono ?_; rintro e w' ⟨rfl, rfl⟩)
        refine hR.mono ?_
        rintro e W3 (⟨rfl, hJ3, hk3⟩ | ⟨rfl, hJx3⟩)
        · have b3 : Boxed W3 Bs 9 (.string ⟨#[]⟩) := (hk3.block Bs hBs).trans b1
          have c3 := b3.cell
          gi_wp2
          go_roundw
          case rel => exact ⟨pre ++ [t], ⟨#[]⟩, b3, Nat.zero_le _, by rw [hX.out, linesB_empty ⟨#[]⟩ rfl, List.append_nil], hJ3⟩
          case measure => rw [left_eq c3, hL0.out]; show 0 < t.size; omega
        · gi_wp2
          refine bodyPost_ret (results_none rfl _ _ _) rfl ?_
          exact ⟨⟨_, rfl⟩, .inr ⟨pre ++ [t], by rw [hX.out]; exact List.prefix_rfl, hJx3⟩⟩
      · -- a line ends at o
        obtain ⟨o, ho⟩ : ∃ o : Nat, Lib.indexByte t.data.toList 10 = (o : Int) := ⟨(Lib.indexByte t.data.toList 10).toNat, by omega⟩
        have hol : o < t.size := by
          have := (List.getElem?_eq_some_iff.1 (Lib.indexByte_some ho).1).1
          rwa [← Lib.size_eq] at this
        have con : Calls Try.prog 21 #[.string t, .int .u8 10] wr fun e w' => e = .returned (.int .i64 (o : Int)) ∧ wr = w' := (Try.strings_IndexByte t 10 wr).mono fun e w' ⟨he, hw⟩ => ⟨by rw [← ho]; exact he, hw.symm⟩
        have hx2 : linesB s = (pre ++ [t.extract 0 (o + 1)]) ++ linesB (t.extract (o + 1) t.size) := by rw [hx, linesB_hit t o ho]; simp
        have b1 := hb.set (.string (t.extract (o + 1) t.size))
        have g1 : wr.grownBy (wr.setCell ⟨Bs, 0, none⟩ (.string (t.extract (o + 1) t.size))).drew (some Bs) := ⟨rfl, rfl, rfl, (grownBy_setCell' wr Bs (.string (t.extract (o + 1) t.size))).size, (grownBy_setCell' wr Bs (.string (t.extract (o + 1) t.size))).block⟩
        obtain ⟨fn, tmps, assign, body, hy, hR⟩ := hY pre (t.extract 0 (o + 1)) _ (aJ _ _ _ hJ g1) (by rw [hx2]; simp) (.inr (by rw [hx2]; exact List.prefix_append _ _))
        have hX := Lib.hid hx2
        have hL0 := Lib.hid (left_eq hc)
        have hO := Lib.hid ho
        clear hx hx2 ho hpos hz
        have e1 : IntKind.i64.wrap ((o : Int) + 1) = (o : Int) + 1 := by rw [IntKind.wrap_i64]; omega
        have e2 : ((o : Int) + 1).toNat = o + 1 := by omega
        have e3 : (0 : Int) ≤ (o : Int) + 1 := by omega
        have e4 : (o : Int) + 1 ≤ (t.size : Int) := by omega
        gi_wp2_with (refine ⟨trivial, ?_⟩; gi_at_call 21; refine (callsIn_wide.2 con).mono ?_; rintro e w' ⟨rfl, rfl⟩)
        gi_region
        gi_wp2
        refine hR.mono ?_
        rintro e W3 (⟨rfl, hJ3, hk3⟩ | ⟨rfl, hJx3⟩)
        · have b3 : Boxed W3 Bs 9 (.string (t.extract (o + 1) t.size)) := (hk3.block Bs hBs).trans b1
          have c3 := b3.cell
          gi_wp2
          go_roundw
          case rel => exact ⟨pre ++ [t.extract 0 (o + 1)], t.extract (o + 1) t.size, b3, by rw [ByteArray.size_extract]; omega, hX.out, hJ3⟩
          case measure => rw [left_eq c3, hL0.out, ByteArray.size_extract]; omega
        · gi_wp2
          refine bodyPost_ret (results_none rfl _ _ _) rfl ?_
          exact ⟨⟨_, rfl⟩, .inr ⟨pre ++ [t.extract 0 (o + 1)], by rw [hX.out]; exact List.prefix_append _ _, hJx3⟩⟩

theorem lines_seq (Bs n0 : Nat) (s : ByteArray) (hs : s.size ≤ 140737488351232) (w : World) (hB : Boxed w Bs 9 (.string s)) (hBs : Bs < n0) :
    SeqB Fence.wide 2 Try.prog 20 #[.pointer (some ⟨Bs, 0, none⟩)] (fun x : ByteArray => #[.string x]) n0 Bs (fun ys => ys = linesB s) (fun pre => pre <+: linesB s) (linesB s).length w :=
  fun l J Jx W hW aJ aJx hY h0 => lines1_in l Bs n0 s hs J Jx aJ aJx hY W ((hW.block Bs hBs).trans hB) hBs h0

set_option maxHeartbeats 1000000 in
theorem stringsLines (s : ByteArray) (w : World) :
    Calls Try.prog 16 #[.string s] w fun e w' => e = .returned (.func (.func 20) #[] #[.pointer (some ⟨w.heap.size, 0, none⟩)]) ∧ w.alloc (.cells #[.string s] 9) = w' := by
  go_enter Try.func16, Try.ntmps16
  go_wp2
  go_ret
  exact ⟨rfl, rfl⟩

set_option maxHeartbeats 1000000 in
theorem implLines (s : ByteArray) (hs : s.size ≤ 8388608) (most : Int) (w : World) : Calls Try.prog 8 #[.string s, .int .i64 most] w (StrPost w (seenL (linesB s) most)) := by
  have con1 := stringsLines s w
  have hsz : (w.alloc (.cells #[.string s] 9)).heap.size = w.heap.size + 1 := World.size_alloc _ _
  have hb : Below w.heap.size w (w.alloc (.cells #[.string s] 9)) := (Below.refl _ w).alloc (Nat.le_refl _) _
  have con2 := seen_any 20 #[.pointer (some ⟨w.heap.size, 0, none⟩)] (enters_of Try.func20 (by kernel_rfl) rfl) most (linesB s) (w.alloc (.cells #[.string s] 9)) (w.heap.size + 1) w.heap.size w.heap.size
    (lines_seq w.heap.size (w.heap.size + 1) s (by omega) _ (Boxed.new w 9 _) (Nat.lt_succ_self _)) (by rw [hsz]; exact Nat.le_refl _) (Nat.lt_succ_self _) (Nat.le_refl _) (Nat.le_trans (linesB_length s) hs)
  have con3 : Calls Try.prog 15 #[.func (.func 20) #[] #[.pointer (some ⟨w.heap.size, 0, none⟩)], .int .i64 most] (w.alloc (.cells #[.string s] 9)) (StrPost w (seenL (linesB s) most)) := con2.mono fun e w' ⟨v, he, hr, hb'⟩ => ⟨v, he, hr.base (by rw [hsz]; omega), hb.trans hb'⟩
  have C3 := Lib.hid con3
  clear con2 con3 hsz hb
  go_enter Try.func8, Try.ntmps8
  go_wp2_with fail
  refine con1.mono ?_
  rintro e w' ⟨rfl, rfl⟩
  go_wp2_with fail
  refine C3.out.mono ?_
  rintro e w' ⟨v, rfl, hr, hb⟩
  go_wp2
  go_ret
  exact ⟨v, rfl, hr, hb⟩
end Go.Proofs.Ytjjhmgledngibaa.iters
