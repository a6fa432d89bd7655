/-
  The contract of bytes.FieldsFunc at unicode.IsSpace: it returns a new slice of the parts that have no code point of the class, for every slice of at most 4294967296 bytes, valid UTF-8 or not.
-/
import Derived.Test.YtchkjdopoanjdaaDoorFieldsFunc
import Derived.Test.YtchkjdopoanjdaaDoorIterFF
import Derived.Test.YtchkjdopoanjdaaDoorDecB
import Derived.Test.YtchkjdopoanjdaaDoorBFFHas
import Derived.Test.YtchkjdopoanjdaaDoorIterF
namespace Go.Proofs.YtchkjdopoanjdaaDoor.strs
open Go.Shelf Go.RowKit Go.Lib base sets plain iters
set_option linter.unusedVariables false

theorem spacePred {w : World} (hW : WhiteTab 2 w) : ∀ (W : World) (x : Nat), x ≤ 1114111 → Below w.heap.size w W → Calls Tryd.prog 48 #[.int .i32 (x : Int)] W fun e w' => e = .returned (.bool (isSpaceR x)) ∧ Below W.heap.size W w' := fun W x hx hb => by
  rw [← isSpaceZ_nat]
  exact Tryd.unicode_IsSpace_any (x : Int) W (by omega) (by omega) (WhiteTab_below hW hb)

set_option maxHeartbeats 8000000 in
set_option maxRecDepth 1000000 in
theorem bytesFF_space_pos (S : ByteArray) (bk oo cp : Nat) (w : World) (hs : S.size ≤ 8388608) (h0 : 0 < S.size) (hsc : S.size ≤ cp) (hcm : cp ≤ 9223372036854775807) (hT : U8Tab w) (hBA : BAt S bk oo w) (hW : WhiteTab 2 w) :
    Calls Tryd.prog 43 #[.slice (some ⟨bk, oo, none⟩) S.size cp, .func (.func 48) #[] #[]] w (PartPost w ((spansOfP isSpaceR S).map (pieceV bk oo))) := by
  have hsl : (spansOfP isSpaceR S).length ≤ S.size := by have := fields_len isSpaceR S; unfold goFieldsP at this; rwa [List.length_map] at this
  obtain ⟨i0, hi, hz0, hz1, hz2⟩ := info_parts infoBSpan
  obtain ⟨W0, hmk, hown0, hg0⟩ := run_make_own (P := Tryd.prog) w w.heap.size 74 77 i0 _ 2 Tryd.underlying74 hi hz0 hz1 .i64 .i64 32 (by rw [hz2]; decide) (by unfold maxLen; decide) (Nat.le_refl _)
  rw [show ((32 : Nat) : Int) = 32 from rfl] at hmk
  have hb0 : Below w.heap.size w W0 := (Below.refl _ w).grown hg0 (Nat.le_refl _) (fun k hk => by cases hk)
  have HT := Lib.hid hT
  have HB := Lib.hid hBA
  have HP := Lib.hid (spacePred hW)
  clear hT hBA hW
  go_enter Tryd.func43, Tryd.ntmps43
  go_wp2
  go_loopg [5, 6, 7] S.size (fun gf s5 s6 s7 wx => ∃ (pos : Nat) (st : Option Nat) (acc : List (Nat × Nat)), s6 = .int .i64 (stZ st) ∧ s7 = .int .i64 pos ∧
      wx.ownsRow w.heap.size 77 2 s5 acc.length (Lib.spanCells acc) ∧ Below w.heap.size w wx ∧ RestAt isSpaceR S acc pos st ∧ S.size ≤ pos + gf ∧ acc.length ≤ pos ∧ s5 ≠ .slice none 0 0)
  case atStart =>
    exact ⟨0, none, [], rfl, rfl, hown0, hb0, RestAt.start _ S, by omega, Nat.le_refl _, (fun h => by cases h)⟩
  case round =>
    obtain ⟨pos, st, acc, rfl, rfl, hown, hbw, hat, hfu, hal, hnn⟩ := hrel
    have hps := hat.1
    by_cases hlt : pos < S.size
    · obtain ⟨g', rfl⟩ : ∃ g', gk = g' + 1 := ⟨gk - 1, by omega⟩
      have con1 := decB S bk oo cp wr (HT.out.below hbw) (HB.out.below hbw) pos hlt
      have hwn := width_fit S pos hlt
      have hwd := width_pos S pos
      have hru := rune_le S pos
      have i1 : (0 : Int) ≤ (pos : Int) := by omega
      have i2 : (pos : Int) ≤ (S.size : Int) := by omega
      have i3 : (pos : Int) < (S.size : Int) := by omega
      have j1 : (pos : Int) ≤ (cp : Int) := by omega
      have j2 : (pos : Int) < (cp : Int) := by omega
      have j3 : ¬ cp = pos := by omega
      have hPx : ∀ V, Below w.heap.size w V → Calls Tryd.prog 48 #[.int .i32 ((Utf8.decode S pos).1 : Int)] V fun e w' => e = .returned (.bool (isSpaceR (Utf8.decode S pos).1)) ∧ Below V.heap.size V w' := fun V hV => HP.out V _ hru hV
      cases hp : isSpaceR (Utf8.decode S pos).1
      · rw [hp] at hPx
        cases st with
        | none =>
          have NX := Lib.hid (hat.in_none hlt hp)
          generalize Utf8.decode S pos = D at *
          obtain ⟨R, K⟩ := D
          dsimp only at *
          have HX := Lib.hid hPx
          clear hat hp hPx
          simp only [stZ]
          go_wp2_with (first | (go_at_call 52; refine con1.mono ?_; rintro e w1 ⟨rfl, hb1⟩; have k1 : Below w.heap.size w w1 := hbw.trans (hb1.mono hbw.size)) | (go_at_call 48; refine (HX.out w1 k1).mono ?_; rintro e w2 ⟨rfl, hb2⟩; have k2 : Below w.heap.size w w2 := k1.trans (hb2.mono k1.size); have ow2 := own_below (own_below hown hb1) hb2))
          go_roundg g'
          case measure => omega
          case rel => exact ⟨pos + K, some pos, acc, rfl, by go_num, ow2, k2, NX.out, by omega, by omega, hnn⟩
        | some a =>
          have ha := hat.2.1 a rfl
          have NX := Lib.hid (hat.in_some hlt hp)
          generalize Utf8.decode S pos = D at *
          obtain ⟨R, K⟩ := D
          dsimp only at *
          have HX := Lib.hid hPx
          clear hat hp hPx
          simp only [stZ]
          go_wp2_with (first | (go_at_call 52; refine con1.mono ?_; rintro e w1 ⟨rfl, hb1⟩; have k1 : Below w.heap.size w w1 := hbw.trans (hb1.mono hbw.size)) | (go_at_call 48; refine (HX.out w1 k1).mono ?_; rintro e w2 ⟨rfl, hb2⟩; have k2 : Below w.heap.size w w2 := k1.trans (hb2.mono k1.size); have ow2 := own_below (own_below hown hb1) hb2))
          go_roundg g'
          case measure => omega
          case rel => exact ⟨pos + K, some a, acc, rfl, by go_num, ow2, k2, NX.out, by omega, by omega, hnn⟩
      · rw [hp] at hPx
        cases st with
        | none =>
          have NX := Lib.hid (hat.sep_none hlt hp)
          generalize Utf8.decode S pos = D at *
          obtain ⟨R, K⟩ := D
          dsimp only at *
          have HX := Lib.hid hPx
          clear hat hp hPx
          simp only [stZ]
          go_wp2_with (first | (go_at_call 52; refine con1.mono ?_; rintro e w1 ⟨rfl, hb1⟩; have k1 : Below w.heap.size w w1 := hbw.trans (hb1.mono hbw.size)) | (go_at_call 48; refine (HX.out w1 k1).mono ?_; rintro e w2 ⟨rfl, hb2⟩; have k2 : Below w.heap.size w w2 := k1.trans (hb2.mono k1.size); have ow2 := own_below (own_below hown hb1) hb2))
          go_roundg g'
          case measure => omega
          case rel => exact ⟨pos + K, none, acc, rfl, by go_num, ow2, k2, NX.out, by omega, by omega, hnn⟩
        | some a =>
          have ha := hat.2.1 a rfl
          have NX := Lib.hid (hat.sep_some hlt hp)
          generalize Utf8.decode S pos = D at *
          obtain ⟨R, K⟩ := D
          dsimp only at *
          have HX := Lib.hid hPx
          clear hat hp hPx
          simp only [stZ]
          go_wp2_with (first | (go_at_call 52; refine con1.mono ?_; rintro e w1 ⟨rfl, hb1⟩; have k1 : Below w.heap.size w w1 := hbw.trans (hb1.mono hbw.size)) | (go_at_call 48; refine (HX.out w1 k1).mono ?_; rintro e w2 ⟨rfl, hb2⟩; have k2 : Below w.heap.size w w2 := k1.trans (hb2.mono k1.size); have ow2 := own_below (own_below hown hb1) hb2) | (at_builtin; go_must (refine wpList_append_own _ rfl (.tmp 30) (.tmp 34) 74 rfl w.heap.size 77 i0 (.agg #[.int .i64 0, .int .i64 0]) 2 16 Tryd.underlying74 hi hz0 hz1 hz2 rfl (by decide) _ _ _ rfl (ow2.alloc _) ⟨w2.heap.size, 0, none⟩ 1 1 [.int .i64 (a : Int), .int .i64 (pos : Int)] rfl rfl (cell_two_new' _ _ _ _) (by intro u hu; simp at hu; rcases hu with rfl | rfl <;> rfl) (by unfold maxLen; omega) (by omega) (by have := k2.size; simp; omega) ?_; intro v3 w3 hown3 hgrow3 hnil3)))
          go_roundg g'
          case measure => omega
          case rel =>
            have hX := ow2.alloc (.cells #[.int .i64 (a : Int), .int .i64 (pos : Int)] 77)
            exact ⟨pos + K, none, acc ++ [(a, pos)], rfl, by go_num, by rw [List.length_append, Lib.spanCells_snoc]; exact hown3, (k2.alloc (by have := k2.size; omega) _).grown hgrow3 (by have := k2.size; simp; omega) (fun j hj => (hX.lt j hj).1), NX.out, by omega, by simp; omega, fun h => by have := (hnil3.1 h).2; omega⟩
    · go_upto_if 43 with fail
      go_cut [5] (fun s5 wx => wx.ownsRow w.heap.size 77 2 s5 (spansOfP isSpaceR S).length (Lib.spanCells (spansOfP isSpaceR S)) ∧ Below w.heap.size w wx ∧ s5 ≠ .slice none 0 0)
      case first =>
        cases st with
        | none =>
          have HL := Lib.hid (hat.last_none hlt)
          clear hat
          simp only [stZ]
          go_wp2_with fail
          go_meet
          exact ⟨by rw [HL.out]; exact hown, hbw, hnn⟩
        | some a =>
          have ha := hat.2.1 a rfl
          have HL := Lib.hid (hat.last_some hlt)
          clear hat
          simp only [stZ]
          go_wp2_with (at_builtin; go_must (refine wpList_append_own _ rfl (.tmp 44) (.tmp 49) 74 rfl w.heap.size 77 i0 (.agg #[.int .i64 0, .int .i64 0]) 2 16 Tryd.underlying74 hi hz0 hz1 hz2 rfl (by decide) _ _ _ rfl (hown.alloc _) ⟨wr.heap.size, 0, none⟩ 1 1 [.int .i64 (a : Int), .int .i64 (S.size : Int)] rfl rfl (cell_two_new' _ _ _ _) (by intro u hu; simp at hu; rcases hu with rfl | rfl <;> rfl) (by unfold maxLen; omega) (by omega) (by have := hbw.size; simp; omega) ?_; intro v3 w3 hown3 hgrow3 hnil3))
          go_wp2_with fail
          go_meet
          have hX := hown.alloc (.cells #[.int .i64 (a : Int), .int .i64 (S.size : Int)] 77)
          exact ⟨by rw [HL.out, List.length_append, Lib.spanCells_snoc]; exact hown3,
            (hbw.alloc hbw.size _).grown hgrow3 (by have := hbw.size; simp; omega) (fun j hj => (hX.lt j hj).1), fun h => by have := (hnil3.1 h).2; omega⟩
      case rest =>
        obtain ⟨hownS, hbS, hnnS⟩ := hcut
        have hokS := spans_ok isSpaceR S
        obtain ⟨SP, hSPe⟩ : ∃ SP, spansOfP isSpaceR S = SP := ⟨_, rfl⟩
        rw [hSPe] at hownS hokS hsl
        have HE := Lib.hid hSPe
        clear hSPe hat hown hbw hnn HP
        obtain ⟨g5, cap5, rfl⟩ : ∃ g5 cap5, u5 = .slice (some ⟨g5, 0, none⟩) SP.length cap5 := by
          rcases hownS.2 with ⟨h, _⟩ | ⟨g5, cap5, _, h, _⟩
          · exact absurd h hnnS
          · exact ⟨g5, cap5, h⟩
        have hg5 : g5 < wc.heap.size := (hownS.lt g5 rfl).2
        obtain ⟨i9, hi9', hz90, hz91, hz92⟩ := info_parts infoBytes
        obtain ⟨W5, hmk5, hown5, hgr5⟩ := run_make_full (P := Tryd.prog) wc w.heap.size 61 33 i9 _ 1 Tryd.underlying61 hi9' hz90 hz91 .i64 .i64 SP.length (by rw [hz92]; omega) (by unfold maxLen; omega) hbS.size
        have hS5 := hownS.kept hgr5 (Classical.em _)
        have hb5 : Below w.heap.size w W5 := hbS.grown hgr5 hbS.size (fun k hk => by cases hk)
        rw [show (Value.slice none 0 0).cells = #[Value.slice none 0 0] from rfl, Nat.mul_one, toList_madeCells_one, ← rowB_zero bk oo SP] at hown5
        have HO := Lib.hid hokS
        clear hokS
        go_wp2
        go_loopg [56] SP.length (fun gf s56 wx => ∃ i : Nat, i + gf = SP.length ∧ s56 = .int .i64 i ∧ wx.ownsRow w.heap.size 33 1 (.slice (some ⟨wc.heap.size, 0, none⟩) SP.length SP.length) SP.length (rowB bk oo SP i) ∧
          wx.ownsRow w.heap.size 77 2 (.slice (some ⟨g5, 0, none⟩) SP.length cap5) SP.length (Lib.spanCells SP) ∧ Below w.heap.size w wx)
        case atStart => exact ⟨0, by omega, rfl, hown5, hS5, hb5⟩
        case round =>
          obtain ⟨i, hig, rfl, hA, hS, hbr⟩ := hrel
          cases gk with
          | zero =>
            have hin : ¬ ((i : Int) < (SP.length : Int)) := by omega
            obtain rfl : i = SP.length := by omega
            go_wp2
            go_ret
            rw [rowB_all] at hA
            have hSPe := HE.out
            subst hSPe
            refine ⟨wc.heap.size, ?_, ?_, hbr⟩
            · rw [List.length_map]; rfl
            · rw [List.length_map]; exact hA
          | succ gf =>
            have hin : (i : Int) < (SP.length : Int) := by omega
            obtain ⟨x, hx⟩ : ∃ x, SP[i]? = some x := ⟨_, List.getElem?_eq_getElem (by omega)⟩
            have hxo := HO.out x (List.mem_of_getElem? hx)
            have hc0 : wr.cell? ⟨g5, i * 2, none⟩ = some (.int .i64 x.1) := (hS.cellAt (i * 2) (by omega)).trans (Lib.spanCells_at SP i x hx).1
            have hc1 : wr.cell? ⟨g5, i * 2 + 1, none⟩ = some (.int .i64 x.2) := (hS.cellAt (i * 2 + 1) (by omega)).trans (Lib.spanCells_at SP i x hx).2
            have hA' := hA.alloc (.cells #[.int .i64 (x.1 : Int), .int .i64 (x.2 : Int)] 77)
            have hS' := hS.alloc (.cells #[.int .i64 (x.1 : Int), .int .i64 (x.2 : Int)] 77)
            obtain ⟨old, hold⟩ : ∃ old, (rowB bk oo SP i)[i]? = some old := ⟨_, List.getElem?_eq_getElem (by have := hA.1; omega)⟩
            have hcA := (hA'.cellAt i (by omega)).trans hold
            have hfA := hA'.frozenAt i
            have q1 : (0 : Int) ≤ (x.1 : Int) := by omega
            have q2 : (x.1 : Int) ≤ (x.2 : Int) := by omega
            have q3 : (x.2 : Int) ≤ (cp : Int) := by omega
            have q4 : ¬ cp = x.1 := by omega
            go_wp2
            go_roundg gf
            case measure => omega
            case rel =>
              have hst' := hA'.stored i (.slice (some ⟨bk, oo + x.1, none⟩) (x.2 - x.1) (x.2 - x.1))
              rw [rowB_set bk oo SP i x hx] at hst'
              refine ⟨i + 1, by omega, by go_num, ?_, ?_, ?_⟩
              · exact hst'.1
              · exact hS'.kept hst'.2 (by simp [Value.ownBlock]; omega)
              · exact (hbr.alloc hbr.size _).grown hst'.2 (by have := hbr.size; simp; omega) (fun k hk => by cases hk; exact hbS.size)
end Go.Proofs.YtchkjdopoanjdaaDoor.strs
