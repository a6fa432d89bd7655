/-
  The contract of spec.FieldsFunc: it returns the longest pieces without code points of the set (with 'not': with those alone), for every string of at most 8388608 bytes, valid UTF-8 or not.
-/
import Derived.Test.YtchkjdopoanjdaaDoorHas
import Derived.Test.YtchkjdopoanjdaaDoorRune
import Derived.Test.YtchkjdopoanjdaaDoorRow
import Derived.Lib.FieldsP
import Derived.Lib.IndexBytes
import Derived.LoopTactic
import Derived.OwnWalk
namespace Go.Proofs.YtchkjdopoanjdaaDoor.iters
open Go.RowKit base sets runes
set_option linter.unusedVariables false

theorem row_below {k : IntKind} {w w' : World} {a : Option Addr} {l c : Nat} {zs : List Int} (h : IsRow k w a l c zs) (hb : Below w.heap.size w w') : IsRow k w' a l c zs := by
  rcases h with h | ⟨x, rfl, hl, hm, hz, hcell, hwf⟩
  · exact .inl h
  · refine .inr ⟨x, rfl, hl, hm, hz, fun i hi => ?_, hwf⟩
    have hc := hcell i hi
    have hlt : (x.add i).block < w.heap.size := by
      rcases Nat.lt_or_ge (x.add i).block w.heap.size with h' | h'
      · exact h'
      · simp [World.cell?, Array.getElem?_eq_none h'] at hc
    exact (hb.cell (p := x.add i) hlt).trans hc

theorem decode_extract (s : ByteArray) (k : Nat) : Utf8.decode (s.extract k s.size) 0 = Utf8.decode s k := by
  have e : s.extract k s.size = ⟨(s.data.toList.drop k).toArray⟩ := by
    rw [← Lib.extract_to_end]
  rw [e]
  exact Lib.decodeL_drop s k
theorem width_le (s : ByteArray) (k : Nat) (h : k < s.size) : k + (Utf8.decode s k).2 ≤ s.size := by
  have := Lib.decodeN_le_n' (s.size - k) (s.get! k).toNat (s.get! (k + 1)).toNat (s.get! (k + 2)).toNat (s.get! (k + 3)).toNat (by omega)
  rw [← Lib.decode_at] at this
  omega

/-- The class as a predicate on code points. -/
def clsP (xs : List Int) (neg : Bool) (r : Nat) : Bool := hasI xs neg (r : Int)
/-- An open piece begins at 'beg' if that lies before 'pos'. -/
def opn (beg pos : Nat) : Option Nat := if beg < pos then some beg else none
/-- The pieces that spans cut out. -/
def cuts (s : ByteArray) (acc : List (Nat × Nat)) : List ByteArray := acc.map fun x => s.extract x.1 x.2
/-- spec.FieldsFunc at 'pos', the current piece having begun at 'beg'. -/
def FieldsAt (p : Nat → Bool) (s : ByteArray) (pos beg : Nat) (acc : List (Nat × Nat)) : Prop :=
  beg ≤ pos ∧ pos ≤ s.size ∧ acc.length ≤ pos ∧ ∃ f, s.size ≤ pos + f ∧ Lib.spansFromP p s f pos (opn beg pos) acc = Lib.spansFromP p s s.size 0 none []
theorem FieldsAt.start (p : Nat → Bool) (s : ByteArray) : FieldsAt p s 0 0 [] := ⟨Nat.le_refl _, Nat.zero_le _, Nat.le_refl _, s.size, by omega, rfl⟩
theorem FieldsAt.step {p : Nat → Bool} {s : ByteArray} {pos beg : Nat} {acc : List (Nat × Nat)} (h : FieldsAt p s pos beg acc) (hlt : pos < s.size) :
    (p (Utf8.decode s pos).1 = true → beg < pos → FieldsAt p s (pos + (Utf8.decode s pos).2) (pos + (Utf8.decode s pos).2) (acc ++ [(beg, pos)])) ∧
    (p (Utf8.decode s pos).1 = true → ¬ beg < pos → FieldsAt p s (pos + (Utf8.decode s pos).2) (pos + (Utf8.decode s pos).2) acc) ∧
    (p (Utf8.decode s pos).1 = false → FieldsAt p s (pos + (Utf8.decode s pos).2) beg acc) := by
  obtain ⟨h1, h2, h3, f, h4, h5⟩ := h
  have hw := Lib.width_pos s pos
  have hn := width_le s pos hlt
  obtain ⟨f', rfl⟩ : ∃ f', f = f' + 1 := ⟨f - 1, by omega⟩
  generalize hK : (Utf8.decode s pos).2 = K at *
  have e0 : ∀ x : Nat, opn x x = none := fun x => by unfold opn; rw [if_neg (by omega)]
  refine ⟨fun hp hb => ⟨Nat.le_refl _, hn, by simp; omega, f', by omega, ?_⟩, fun hp hb => ⟨Nat.le_refl _, hn, by omega, f', by omega, ?_⟩, fun hp => ⟨by omega, hn, by omega, f', by omega, ?_⟩⟩
  · have e : opn beg pos = some beg := by unfold opn; rw [if_pos hb]
    rw [← h5, e, e0]
    conv => rhs; unfold Lib.spansFromP
    rw [if_pos hlt, if_pos hp, hK]
  · have e : opn beg pos = none := by unfold opn; rw [if_neg hb]
    rw [← h5, e, e0]
    conv => rhs; unfold Lib.spansFromP
    rw [if_pos hlt, if_pos hp, hK]
  · have e2 : opn beg (pos + K) = some beg := by unfold opn; rw [if_pos (by omega)]
    rw [← h5, e2]
    conv => rhs; unfold Lib.spansFromP
    rw [if_pos hlt, if_neg (by rw [hp]; exact Bool.false_ne_true), hK]
    by_cases hb : beg < pos
    · have e : opn beg pos = some beg := by unfold opn; rw [if_pos hb]
      rw [e]
    · have e : opn beg pos = none := by unfold opn; rw [if_neg hb]
      obtain rfl : beg = pos := by omega
      rw [e]
theorem FieldsAt.last_some {p : Nat → Bool} {s : ByteArray} {pos beg : Nat} {acc : List (Nat × Nat)} (h : FieldsAt p s pos beg acc) (hp : pos = s.size) (hb : beg < pos) : cuts s acc ++ [s.extract beg s.size] = Lib.goFieldsP p s := by
  obtain ⟨h1, h2, h3, f, h4, h5⟩ := h
  rw [Lib.spansFromP_end p s f pos _ _ (by omega)] at h5
  unfold Lib.goFieldsP Lib.spansOfP
  rw [← h5]
  unfold opn
  rw [if_pos hb]
  simp [Lib.closeSpans, cuts]
theorem FieldsAt.last_none {p : Nat → Bool} {s : ByteArray} {pos beg : Nat} {acc : List (Nat × Nat)} (h : FieldsAt p s pos beg acc) (hp : pos = s.size) (hb : ¬ beg < pos) : cuts s acc = Lib.goFieldsP p s := by
  obtain ⟨h1, h2, h3, f, h4, h5⟩ := h
  rw [Lib.spansFromP_end p s f pos _ _ (by omega)] at h5
  unfold Lib.goFieldsP Lib.spansOfP
  rw [← h5]
  unfold opn
  rw [if_neg hb]
  simp [Lib.closeSpans, cuts]
theorem cuts_snoc (s : ByteArray) (acc : List (Nat × Nat)) (a b : Nat) : cuts s (acc ++ [(a, b)]) = cuts s acc ++ [s.extract a b] := by simp [cuts]
theorem cuts_length (s : ByteArray) (acc : List (Nat × Nat)) : (cuts s acc).length = acc.length := by simp [cuts]

set_option maxHeartbeats 4000000 in
theorem specFieldsFunc {w : World} {a : Option Addr} {l c : Nat} {zs : List Int} (h : IsRow .i32 w a l c zs) (neg : Bool) (s : ByteArray) (hs : s.size ≤ 8388608) :
    Calls Tryd.prog 24 #[.string s, .slice a l c, .bool neg] w (StrPost w (Lib.goFieldsP (clsP (zs.take l) neg) s)) := by
  obtain ⟨i0, hi, hz0, hz1, hz2⟩ := info_parts infoS
  have HR := Lib.hid h
  clear h
  go_enter Tryd.func24, Tryd.ntmps24
  go_wp2
  go_loopw [7, 8, 9] (fun o f i wr => ∃ (pos beg : Nat) (acc : List (Nat × Nat)), i = .int .i64 pos ∧ f = .int .i64 beg ∧ beg ≤ pos ∧ pos ≤ s.size ∧ acc.length ≤ pos ∧ FieldsAt (clsP (zs.take l) neg) s pos beg acc ∧ StrRow wr w.heap.size o (cuts s acc) ∧ Below w.heap.size w wr)
    (fun _ _ i _ => s.size - (intOf i).toNat)
  case atStart => exact ⟨0, 0, [], rfl, rfl, Nat.le_refl _, Nat.zero_le _, Nat.le_refl _, FieldsAt.start _ s, StrRow.empty _ _, Below.refl _ _⟩
  case round =>
    obtain ⟨pos, beg, acc, rfl, rfl, hbp, hps, hal, hat, hrow, hB⟩ := hrel
    have hBz := hB.size
    by_cases hlt : pos < s.size
    · obtain ⟨st1, st2, st3⟩ := hat.step hlt
      have hwd := Lib.width_pos s pos
      have hwn := width_le s pos hlt
      have hrl := Lib.rune_le s pos
      have con1 := specRune (s.extract pos s.size) wr (by rw [ByteArray.size_extract]; omega) (by rw [ByteArray.size_extract]; omega)
      rw [decode_extract] at con1
      have con2 := specHas (row_below HR.out hB) neg (((Utf8.decode s pos).1 : Nat) : Int)
      have ecls : hasI (zs.take l) neg (((Utf8.decode s pos).1 : Nat) : Int) = clsP (zs.take l) neg (Utf8.decode s pos).1 := rfl
      rw [ecls] at con2
      generalize hD : Utf8.decode s pos = D at *
      obtain ⟨R, K⟩ := D
      dsimp only at *
      have con1' : Calls Tryd.prog 39 #[.string (s.extract pos s.size)] wr fun e w' => e = .returned (.tuple #[.int .i32 (R : Int), .int .i64 (K : Int)]) ∧ wr = w' := con1
      clear con1 ecls hD hat
      cases hp : clsP (zs.take l) neg R
      · have H3 := Lib.hid (st3 hp)
        rw [hp] at con2
        clear st1 st2 st3 hp
        go_wp2_with (first | (go_at_call 39; refine con1'.mono ?_; rintro e w' ⟨rfl, rfl⟩) | (go_at_call 40; refine con2.mono ?_; rintro e w' ⟨rfl, rfl⟩))
        go_roundw
        case rel => exact ⟨pos + K, beg, acc, by go_num, rfl, by omega, hwn, by omega, H3.out, hrow, hB⟩
        case measure => simp [intOf]; omega
      · rw [hp] at con2
        by_cases hb : beg < pos
        · have H1 := Lib.hid (st1 hp hb)
          clear st1 st2 st3 hp
          have hca := cuts_length s acc
          have hlen : (cuts s acc).length ≤ 8388608 := by omega
          have CN := Lib.hid (cuts_snoc s acc beg pos)
          clear hca
          generalize cuts s acc = ca at *
          go_wp2_with (first | (go_at_call 39; refine con1'.mono ?_; rintro e w' ⟨rfl, rfl⟩) | (go_at_call 40; refine con2.mono ?_; rintro e w' ⟨rfl, rfl⟩) | (at_builtin; refine wpList_append_own _ rfl _ _ 25 rfl w.heap.size 9 i0 (.string ⟨#[]⟩) 1 16 Tryd.underlying25 hi hz0 hz1 hz2 rfl (by decide) _ _ _ rfl (World.ownsRow.alloc hrow _) ⟨wr.heap.size, 0, none⟩ 1 1 [.string (s.extract beg pos)] rfl rfl (cell_one_new _ _ _) (by simp [Value.oneCell']) (by unfold maxLen; omega) (by omega) (by simp; omega) ?_; intro v' w1 hown' hgrow _))
          have hB1 : Below w.heap.size w w1 := (hB.alloc hBz _).grown hgrow (by simp; omega) (fun j hj => (World.ownsRow.lt hrow j hj).1)
          go_wp2
          go_roundw
          case rel => exact ⟨pos + K, pos + K, _, by go_num, by go_num, Nat.le_refl _, hwn, by simp; omega, H1.out, by rw [CN.out]; exact row_snoc hown', hB1⟩
          case measure => simp [intOf]; omega
        · have H2 := Lib.hid (st2 hp hb)
          clear st1 st2 st3 hp
          go_wp2_with (first | (go_at_call 39; refine con1'.mono ?_; rintro e w' ⟨rfl, rfl⟩) | (go_at_call 40; refine con2.mono ?_; rintro e w' ⟨rfl, rfl⟩))
          go_roundw
          case rel => exact ⟨pos + K, pos + K, acc, by go_num, by go_num, Nat.le_refl _, hwn, by omega, H2.out, hrow, hB⟩
          case measure => simp [intOf]; omega
    · by_cases hb : beg < pos
      · have HM := Lib.hid (hat.last_some (by omega) hb)
        have hca := cuts_length s acc
        have hlen : (cuts s acc).length ≤ 8388608 := by omega
        clear hat hca
        generalize cuts s acc = ca at *
        go_wp2_with (at_builtin; refine wpList_append_own _ rfl _ _ 25 rfl w.heap.size 9 i0 (.string ⟨#[]⟩) 1 16 Tryd.underlying25 hi hz0 hz1 hz2 rfl (by decide) _ _ _ rfl (World.ownsRow.alloc hrow _) ⟨wr.heap.size, 0, none⟩ 1 1 [.string (s.extract beg s.size)] rfl rfl (cell_one_new _ _ _) (by simp [Value.oneCell']) (by unfold maxLen; omega) (by omega) (by simp; omega) ?_; intro v' w1 hown' hgrow _)
        have hB1 : Below w.heap.size w w1 := (hB.alloc hBz _).grown hgrow (by simp; omega) (fun j hj => (World.ownsRow.lt hrow j hj).1)
        go_wp2
        go_ret
        exact ⟨_, rfl, by rw [← HM.out]; exact row_snoc hown', hB1⟩
      · have HM := Lib.hid (hat.last_none (by omega) hb)
        clear hat
        go_wp2
        go_ret
        exact ⟨_, rfl, by rw [← HM.out]; exact hrow, hB⟩
end Go.Proofs.YtchkjdopoanjdaaDoor.iters
