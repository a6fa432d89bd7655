/-
  strings.FieldsFuncSeq: the iterator that it returns yields the pieces of the string.
-/
import Derived.Test.YtchkjdopoanjdaaDoorSeen
import Derived.Test.YtchkjdopoanjdaaDoorRest
import Derived.Test.YtchkjdopoanjdaaDoorTabs
import Derived.Test.YtchkjdopoanjdaaDoorSpecFF
import Derived.Test.YtchkjdopoanjdaaDoorFieldsFunc
import Derived.RegionIn
import Derived.BigRegionIn
import Derived.Laws.DeepStrings4
namespace Go.Proofs.YtchkjdopoanjdaaDoor.iters
open Go.RowKit Go.Shelf Go.Lib plain
set_option linter.unusedVariables false
attribute [local go_sem] Oper.semAt_some

/-- How an iterator's call ends. -/
def IterPost {α : Type} (xs : List α) (J Jx : List α → World → Prop) (e : Ending) (W' : World) : Prop := (∃ v, e = .returned v) ∧ ((∃ ys, ys = xs ∧ J ys W') ∨ (∃ pre, pre <+: xs ∧ Jx pre W'))
/-- How a round ends. -/
def RoundPost {α : Type} (n0 : Nat) (pre : List α) (J Jx : List α → World → Prop) (W1 : World) (e : Ending) (W' : World) : Prop := (e = .returned (.bool true) ∧ J pre W' ∧ Below n0 W1 W') ∨ (e = .returned (.bool false) ∧ Jx pre W')
theorem grown_of_below {w w' : World} (r : Option Nat) (h : Below w.heap.size w w') : w.grownBy w' r := ⟨h.os, h.tape, h.output, h.size, fun k hk _ => h.block k hk⟩
def stZ : Option Nat → Int
  | some a => (a : Int)
  | none => -1
abbrev ext (s : ByteArray) (x : Nat × Nat) : ByteArray := s.extract x.1 x.2
theorem ext_snoc (s : ByteArray) (pre : List (Nat × Nat)) (x : Nat × Nat) : (pre ++ [x]).map (ext s) = pre.map (ext s) ++ [s.extract x.1 x.2] := by simp
theorem fields_ext (p : Nat → Bool) (s : ByteArray) : goFieldsP p s = (spansOfP p s).map (ext s) := rfl
theorem lt_of_snoc {α : Type} {pre xs : List α} {x : α} (h : pre ++ [x] <+: xs) : pre.length < xs.length := by
  have := h.length_le
  simp at this
  omega
theorem decodeGo_at {s : ByteArray} {pos : Nat} (h : pos < s.size) : decodeGo (s.extract pos s.size) = Utf8.decode s pos := by
  unfold decodeGo
  rw [if_neg (by rw [ByteArray.size_extract]; omega), decode_extract]

set_option maxRecDepth 100000 in
set_option maxHeartbeats 8000000 in
theorem ffseq1_in (l Bs Bf n0 : Nat) (RV : Value) (p : Nat → Bool) (s : ByteArray) (hs : s.size ≤ 140737488351232) (J Jx : List ByteArray → World → Prop) (aJ : Abides Bs J) (aJx : Abides Bs Jx)
    (hY : ∀ pre x W1, J pre W1 → pre.length < (goFieldsP p s).length → (pre ++ [x] = goFieldsP p s ∨ pre ++ [x] <+: goFieldsP p s) → YieldAt Fence.wide 1 Tryd.prog l #[.string x] W1 (RoundPost n0 (pre ++ [x]) J Jx W1))
    (W : World) (hn0 : n0 ≤ W.heap.size) (hB : Boxed W Bs 9 (.string s)) (hF : Boxed W Bf 55 (.func (.func 37) #[RV] #[])) (hBs : Bs < n0) (hBf : Bf < n0) (hT : ∀ V, Below n0 W V → U8Tab V)
    (hP : ∀ V, Below n0 W V → ∀ x : Nat, x ≤ 1114111 → Calls Tryd.prog 37 #[RV, .int .i32 (x : Int)] V fun e w' => e = .returned (.bool (p x)) ∧ Below V.heap.size V w') (h0 : J [] W) :
    CallsIn Fence.wide 2 Tryd.prog 51 #[.func (.yield l) #[] #[], .pointer (some ⟨Bs, 0, none⟩), .pointer (some ⟨Bf, 0, none⟩)] W (IterPost (goFieldsP p s) J Jx) := by
  refine callsIn_of_wp Tryd.func51 rfl trivial ?_ rfl
  simp only [Tryd.ntmps51, List.size_toArray, List.length_cons, List.length_nil, Nat.reduceAdd, Nat.reduceSub, Array.replicate_succ, Array.replicate_zero, List.push_toArray, List.append_toArray, List.nil_append, List.cons_append]
  have HT := Lib.hid hT
  have HP := Lib.hid hP
  have HY := Lib.hid hY
  clear hT hP hY
  gi_wp2
  gi_loopw [4, 5] (fun o i wr => ∃ (pre : List (Nat × Nat)) (pos : Nat) (st : Option Nat), o = .int .i64 (stZ st) ∧ i = .int .i64 pos ∧ RestAt p s pre pos st ∧ J (pre.map (ext s)) wr ∧ Below n0 W wr)
    (fun _ i _ => s.size - (intOf i).toNat)
  case atStart =>
    exact ⟨[], 0, none, rfl, rfl, RestAt.start p s, h0, Below.refl _ _⟩
  case round =>
    obtain ⟨pre, pos, st, rfl, rfl, hat, hJ, hW⟩ := hrel
    have hps := hat.1
    have b0 : Boxed wr Bs 9 (.string s) := (hW.block Bs hBs).trans hB
    have f0 : Boxed wr Bf 55 (.func (.func 37) #[RV] #[]) := (hW.block Bf hBf).trans hF
    have hc := b0.cell
    have hcf := f0.cell
    have hz := hW.size
    by_cases hlt : pos < s.size
    · have con1 := Tryd.utf8_DecodeRuneInString (s.extract pos s.size) wr (HT.out wr hW)
      rw [decodeGo_at hlt] at con1
      have hwn := width_fit s pos hlt
      have hwd := width_pos s pos
      have hru := rune_le s pos
      have i1 : (0 : Int) ≤ (pos : Int) := by omega
      have i2 : (pos : Int) ≤ (s.size : Int) := by omega
      have i3 : (pos : Int) < (s.size : Int) := by omega
      cases hp : p (Utf8.decode s pos).1
      · -- no separator
        have nx : ∃ st', (stZ st' = if stZ st < 0 then (pos : Int) else stZ st) ∧ RestAt p s pre (pos + (Utf8.decode s pos).2) st' := by
          cases st with
          | none => exact ⟨some pos, rfl, hat.in_none hlt hp⟩
          | some a => exact ⟨some a, by simp [stZ]; omega, hat.in_some hlt hp⟩
        obtain ⟨st', hst', nx⟩ := nx
        have NX := Lib.hid nx
        have hP1 := HP.out
        generalize hD : Utf8.decode s pos = D at *
        obtain ⟨R, K⟩ := D
        dsimp only at *
        have HD := Lib.hid hD
        have hPx : ∀ V, Below n0 W V → Calls Tryd.prog 37 #[RV, .int .i32 (R : Int)] V fun e w' => e = .returned (.bool false) ∧ Below V.heap.size V w' := fun V hV => by rw [← hp]; exact hP1 V hV R hru
        have HX := Lib.hid hPx
        clear nx hat hD hp hP1 hPx
        have hsz : stZ st < 0 ∨ ¬ stZ st < 0 := by omega
        rcases hsz with hneg | hneg
        · rw [if_pos hneg] at hst'
          have HS := Lib.hid hst'
          clear hst'
          generalize stZ st = z at *
          gi_wp2_with (first | (refine ⟨trivial, ?_⟩; gi_at_call 50; refine (callsIn_wide.2 con1).mono ?_; rintro e w1 ⟨rfl, hb1⟩; have k1 : Below n0 W w1 := hW.trans (hb1.mono (by omega)); have c1 := (show Boxed w1 Bs 9 (.string s) from (k1.block Bs hBs).trans hB).cell; have d1 := (show Boxed w1 Bf 55 _ from (k1.block Bf hBf).trans hF).cell; have jb1 := aJ _ _ _ hJ (grown_of_below (some Bs) hb1)) | (refine ⟨trivial, ?_⟩; gi_at_call 37; refine (callsIn_wide.2 (HX.out w1 k1)).mono ?_; rintro e w2 ⟨rfl, hb2⟩; have k2 : Below n0 W w2 := k1.trans (hb2.mono (Nat.le_trans hn0 k1.size)); have c2 := (show Boxed w2 Bs 9 (.string s) from (k2.block Bs hBs).trans hB).cell; have jb2 := aJ _ _ _ jb1 (grown_of_below (some Bs) hb2)))
          gi_wp2
          go_roundw
          case rel => exact ⟨pre, pos + K, st', by rw [HS.out], by go_num, NX.out, jb2, k2⟩
          case measure => simp [intOf]; omega
        · rw [if_neg hneg] at hst'
          have HS := Lib.hid hst'
          clear hst'
          generalize stZ st = z at *
          gi_wp2_with (first | (refine ⟨trivial, ?_⟩; gi_at_call 50; refine (callsIn_wide.2 con1).mono ?_; rintro e w1 ⟨rfl, hb1⟩; have k1 : Below n0 W w1 := hW.trans (hb1.mono (by omega)); have c1 := (show Boxed w1 Bs 9 (.string s) from (k1.block Bs hBs).trans hB).cell; have d1 := (show Boxed w1 Bf 55 _ from (k1.block Bf hBf).trans hF).cell; have jb1 := aJ _ _ _ hJ (grown_of_below (some Bs) hb1)) | (refine ⟨trivial, ?_⟩; gi_at_call 37; refine (callsIn_wide.2 (HX.out w1 k1)).mono ?_; rintro e w2 ⟨rfl, hb2⟩; have k2 : Below n0 W w2 := k1.trans (hb2.mono (Nat.le_trans hn0 k1.size)); have c2 := (show Boxed w2 Bs 9 (.string s) from (k2.block Bs hBs).trans hB).cell; have jb2 := aJ _ _ _ jb1 (grown_of_below (some Bs) hb2)))
          gi_wp2
          go_roundw
          case rel => exact ⟨pre, pos + K, st', by rw [HS.out], by go_num, NX.out, jb2, k2⟩
          case measure => simp [intOf]; omega
      · -- a separator
        cases st with
        | none =>
          have nx := hat.sep_none hlt hp
          have NX := Lib.hid nx
          have hP1 := HP.out
          generalize hD : Utf8.decode s pos = D at *
          obtain ⟨R, K⟩ := D
          dsimp only at *
          have hPx : ∀ V, Below n0 W V → Calls Tryd.prog 37 #[RV, .int .i32 (R : Int)] V fun e w' => e = .returned (.bool true) ∧ Below V.heap.size V w' := fun V hV => by rw [← hp]; exact hP1 V hV R hru
          have HX := Lib.hid hPx
          clear nx hat hD hp hP1 hPx
          simp only [stZ]
          gi_wp2_with (first | (refine ⟨trivial, ?_⟩; gi_at_call 50; refine (callsIn_wide.2 con1).mono ?_; rintro e w1 ⟨rfl, hb1⟩; have k1 : Below n0 W w1 := hW.trans (hb1.mono (by omega)); have c1 := (show Boxed w1 Bs 9 (.string s) from (k1.block Bs hBs).trans hB).cell; have d1 := (show Boxed w1 Bf 55 _ from (k1.block Bf hBf).trans hF).cell; have jb1 := aJ _ _ _ hJ (grown_of_below (some Bs) hb1)) | (refine ⟨trivial, ?_⟩; gi_at_call 37; refine (callsIn_wide.2 (HX.out w1 k1)).mono ?_; rintro e w2 ⟨rfl, hb2⟩; have k2 : Below n0 W w2 := k1.trans (hb2.mono (Nat.le_trans hn0 k1.size)); have c2 := (show Boxed w2 Bs 9 (.string s) from (k2.block Bs hBs).trans hB).cell; have jb2 := aJ _ _ _ jb1 (grown_of_below (some Bs) hb2)))
          gi_wp2
          go_roundw
          case rel => exact ⟨pre, pos + K, none, rfl, by go_num, NX.out, jb2, k2⟩
          case measure => simp [intOf]; omega
        | some a =>
          have ha := hat.2.1 a rfl
          have nx := hat.sep_some hlt hp
          have hpre := hat.next hlt hp
          have NX := Lib.hid nx
          have HQ := Lib.hid hpre
          have hP1 := HP.out
          generalize hD : Utf8.decode s pos = D at *
          obtain ⟨R, K⟩ := D
          dsimp only at *
          have hPx : ∀ V, Below n0 W V → Calls Tryd.prog 37 #[RV, .int .i32 (R : Int)] V fun e w' => e = .returned (.bool true) ∧ Below V.heap.size V w' := fun V hV => by rw [← hp]; exact hP1 V hV R hru
          have HX := Lib.hid hPx
          clear nx hat hD hp hP1 hPx hpre
          simp only [stZ]
          have i4 : (0 : Int) ≤ (a : Int) := by omega
          have i5 : (a : Int) ≤ (pos : Int) := by omega
          gi_wp2_with (first | (refine ⟨trivial, ?_⟩; gi_at_call 50; refine (callsIn_wide.2 con1).mono ?_; rintro e w1 ⟨rfl, hb1⟩; have k1 : Below n0 W w1 := hW.trans (hb1.mono (by omega)); have c1 := (show Boxed w1 Bs 9 (.string s) from (k1.block Bs hBs).trans hB).cell; have d1 := (show Boxed w1 Bf 55 _ from (k1.block Bf hBf).trans hF).cell; have jb1 := aJ _ _ _ hJ (grown_of_below (some Bs) hb1)) | (refine ⟨trivial, ?_⟩; gi_at_call 37; refine (callsIn_wide.2 (HX.out w1 k1)).mono ?_; rintro e w2 ⟨rfl, hb2⟩; have k2 : Below n0 W w2 := k1.trans (hb2.mono (Nat.le_trans hn0 k1.size)); have c2 := (show Boxed w2 Bs 9 (.string s) from (k2.block Bs hBs).trans hB).cell; have jb2 := aJ _ _ _ jb1 (grown_of_below (some Bs) hb2); obtain ⟨fn, tmps, assign, body, hy, hR⟩ := HY.out _ (s.extract a pos) w2 jb2 (lt_of_snoc (by rw [← ext_snoc s pre (a, pos), fields_ext]; exact HQ.out.map _)) (.inr (by rw [← ext_snoc s pre (a, pos), fields_ext]; exact HQ.out.map _))))
          refine hR.mono ?_
          rintro e W3 (⟨rfl, hJ3, hk3⟩ | ⟨rfl, hJx3⟩)
          · have k3 := k2.trans hk3
            have c3 := (show Boxed W3 Bs 9 (.string s) from (k3.block Bs hBs).trans hB).cell
            gi_wp2
            go_roundw
            case rel => exact ⟨pre ++ [(a, pos)], pos + K, none, rfl, by go_num, NX.out, by rw [ext_snoc]; exact hJ3, k3⟩
            case measure => simp [intOf]; omega
          · gi_wp2
            refine bodyPost_ret (results_none rfl _ _ _) rfl ?_
            exact ⟨⟨_, rfl⟩, .inr ⟨pre.map (ext s) ++ [s.extract a pos], by rw [← ext_snoc s pre (a, pos), fields_ext]; exact HQ.out.map _, hJx3⟩⟩
    · cases st with
      | none =>
        have hl := hat.last_none hlt
        have HL := Lib.hid hl
        clear hl hat
        simp only [stZ]
        gi_wp2
        go_end0
        exact ⟨⟨_, rfl⟩, .inl ⟨pre.map (ext s), by rw [fields_ext, HL.out], hJ⟩⟩
      | some a =>
        have ha := hat.2.1 a rfl
        have hl := hat.last_some hlt
        have HL := Lib.hid hl
        clear hl hat
        simp only [stZ]
        have i4 : (0 : Int) ≤ (a : Int) := by omega
        have i5 : (a : Int) ≤ (s.size : Int) := by omega
        have e9 : goFieldsP p s = pre.map (ext s) ++ [s.extract a s.size] := by rw [fields_ext, HL.out]; simp
        obtain ⟨fn, tmps, assign, body, hy, hR⟩ := HY.out _ (s.extract a s.size) wr hJ (by rw [e9]; simp) (.inl e9.symm)
        have E9 := Lib.hid e9
        clear e9
        gi_wp2
        refine hR.mono ?_
        rintro e W3 (⟨rfl, hJ3, hk3⟩ | ⟨rfl, hJx3⟩)
        · gi_wp2
          go_end0
          exact ⟨⟨_, rfl⟩, .inl ⟨_, E9.out.symm, hJ3⟩⟩
        · gi_wp2
          go_end0
          exact ⟨⟨_, rfl⟩, .inr ⟨_, by rw [E9.out]; exact List.prefix_rfl, hJx3⟩⟩
end Go.Proofs.YtchkjdopoanjdaaDoor.iters
