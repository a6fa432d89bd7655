/-
  The contract of bytes.Fields: it returns a new slice of the parts that have no white space, for every slice of at most 8388608 bytes, valid UTF-8 or not. The walk of the first pass and of the ASCII road follows the kit's worked one for strings.Fields.
-/
import Derived.Test.YtchkjdopoanjdaaDoorBFFSpace
import Derived.Test.YtchkjdopoanjdaaDoorIterBF
import Derived.Shelf.Strings.FieldsAny
namespace Go.Proofs.YtchkjdopoanjdaaDoor.strs
open Go.Shelf Go.RowKit Go.Lib base sets plain iters
set_option linter.unusedVariables false

theorem spans_count (S : ByteArray) (ha : ∀ j, j < S.size → (S.get! j).toNat < 128) : cntF true S.data.toList = (spansOfP isSpaceR S).length := by
  have h1 := goFields_count S
  rw [fieldsD_ascii _ (fun b hb => by
    obtain ⟨j, hj⟩ := List.getElem?_of_mem hb
    have hjl := (List.getElem?_eq_some_iff.1 hj).1
    rw [← Lib.size_eq] at hjl
    have := getB S j hjl
    rw [hj] at this
    rw [Option.some.inj this]
    exact ha j hjl), fields_length] at h1
  unfold goFieldsP at h1
  rw [List.length_map] at h1
  exact h1.symm
theorem asc_sp {w : World} (h : BsTab w) (x : UInt8) : w.cell? ⟨1, x.toNat, none⟩ = some (.int .u8 (if isSp x then 1 else 0)) := by
  have := asc_cellB h x.toNat (UInt8.toNat_lt x)
  rw [asciiSpaceTab_at _ (UInt8.toNat_lt x)] at this
  simpa using this
/-- The row when some pieces have been laid. -/
def rowD (b o : Nat) (done : List (Nat × Nat)) (N : Nat) : List Value := done.map (pieceV b o) ++ List.replicate (N - done.length) (.slice none 0 0)
theorem rowD_zero (b o N : Nat) : rowD b o [] N = List.replicate N (.slice none 0 0) := by simp [rowD]
theorem rowD_all (b o : Nat) (done : List (Nat × Nat)) : rowD b o done done.length = done.map (pieceV b o) := by simp [rowD]
theorem rowD_set (b o : Nat) (done : List (Nat × Nat)) (N fs i : Nat) (h : done.length < N) : (rowD b o done N).set done.length (.slice (some ⟨b, o + fs, none⟩) (i - fs) (i - fs)) = rowD b o (done ++ [(fs, i)]) N := by
  unfold rowD
  have hl : (done.map (pieceV b o)).length = done.length := by simp
  rw [List.set_append_right _ _ (by omega), hl, Nat.sub_self, show N - done.length = (N - (done ++ [(fs, i)]).length) + 1 by simp; omega, List.replicate_succ, List.set_cons_zero, List.map_append, List.append_assoc]
  rfl

set_option maxHeartbeats 16000000 in
set_option maxRecDepth 1000000 in
theorem bytesFields_ascii (S : ByteArray) (q : Option Addr) (bk oo cp : Nat) (w : World) (hs : S.size ≤ 8388608) (hq : 0 < S.size → q = some ⟨bk, oo, none⟩) (hsc : S.size ≤ cp) (hcm : cp ≤ 9223372036854775807) (hT : BsTab w) (hBA : BAt S bk oo w) (ha : ∀ j, j < S.size → (S.get! j).toNat < 128) :
    Calls Tryd.prog 42 #[.slice q S.size cp] w (PartPost w ((spansOfP isSpaceR S).map (pieceV bk oo))) := by
  have hNc := spans_count S ha
  have hsl : (spansOfP isSpaceR S).length ≤ S.size := by have := fields_len isSpaceR S; unfold goFieldsP at this; rwa [List.length_map] at this
  obtain ⟨N, hN⟩ : ∃ N : Nat, (spansOfP isSpaceR S).length = N := ⟨_, rfl⟩
  rw [hN] at hNc hsl
  have HQ := Lib.hid hq
  have HA := Lib.hid ha
  have HB : Hid (∀ V, Below w.heap.size w V → ∀ j, j < S.size → V.cell? ⟨bk, oo + j, none⟩ = some (.int .u8 (S.get! j).toNat)) := fun V hV => hBA.below hV
  have HT : Hid (∀ V, Below w.heap.size w V → ∀ x : UInt8, V.cell? ⟨1, x.toNat, none⟩ = some (.int .u8 (if isSp x then 1 else 0))) := fun V hV x => asc_sp (hT.below hV) x
  have HD : Hid (∀ j, j < S.size → Utf8.decode S j = ((S.get! j).toNat, 1)) := fun j hj => ascii_at S j hj (ha j hj)
  have HN := Lib.hid hN
  have hlen : S.data.toList.length = S.size := (Lib.size_eq S).symm
  clear hq hT hBA ha hN
  obtain ⟨i9, hi9', hz90, hz91, hz92⟩ := info_parts infoBytes
  obtain ⟨W5, hmk5, hown5, hgr5⟩ := run_make_full (P := Tryd.prog) w w.heap.size 61 33 i9 _ 1 Tryd.underlying61 hi9' hz90 hz91 .i64 .i64 N (by rw [hz92]; omega) (by unfold maxLen; omega) (Nat.le_refl _)
  have hb5 : Below w.heap.size w W5 := (Below.refl _ w).grown hgr5 (Nat.le_refl _) (fun k hk => by cases hk)
  rw [show (Value.slice none 0 0).cells = #[Value.slice none 0 0] from rfl, Nat.mul_one, toList_madeCells_one, ← rowD_zero bk oo N] at hown5
  go_enter Tryd.func42, Tryd.ntmps42
  go_wp2
  go_loopg [3, 4, 5, 6] S.size (fun g s3 s4 s5 s6 wx => w = wx ∧ ∃ (k nn sb : Nat) (ws : Bool), k ≤ S.size ∧ g = S.size - k ∧ s6 = .int .i64 k ∧ s3 = .int .i64 nn ∧ s4 = .int .i64 (if ws then 1 else 0) ∧ s5 = .int .u8 sb ∧ sb < 128 ∧ nn ≤ k ∧
    nn + cntF ws (S.data.toList.drop k) = N)
  case atStart => exact ⟨rfl, 0, 0, 0, true, Nat.zero_le _, rfl, rfl, rfl, rfl, rfl, by omega, Nat.le_refl _, by simpa using hNc⟩
  case round =>
    obtain ⟨rfl, k, nn, sb, ws, hk, rfl, rfl, rfl, rfl, rfl, hsb, hnk, hc⟩ := hrel
    clear hNc
    by_cases hkn : k < S.size
    · have hkz : (k : Int) < (S.size : Int) := by omega
      obtain rfl := HQ.out (by omega)
      have hcb := HB.out w (Below.refl _ _) k hkn
      have hxl := getB S k hkn
      have hx128 := HA.out k hkn
      have hTx := HT.out w (Below.refl _ _) (S.get! k)
      generalize S.get! k = x at *
      have hxz : (x.toNat : Int) < 256 := by omega
      have hor : bits .or .u8 (sb : Int) (x.toNat : Int) = ((sb ||| x.toNat : Nat) : Int) := u8_or_nat _ _ (by omega) (by omega)
      have hor128 : sb ||| x.toNat < 128 := Nat.or_lt_two_pow (n := 7) hsb hx128
      rw [Lib.drop_at hxl, Lib.cntF_step] at hc
      have HC := Lib.hid hc
      clear hc hxl
      have b00 := andNot00; have b01 := andNot01; have b10 := andNot10; have b11 := andNot11
      cases hsx : Lib.isSp x <;> cases ws <;> rw [hsx] at hTx <;> simp only [if_true, Bool.false_eq_true, if_false] at hTx ⊢ <;>
        (go_wp2
         go_roundg (S.size - (k + 1))
         case measure => omega
         case rel =>
           have hc := HC.out
           rw [hsx] at hc
           simp at hc
           first
             | exact ⟨rfl, k + 1, nn, sb ||| x.toNat, false, by omega, rfl, by first | rfl | simp, by first | rfl | (simp; unfold RowKit.wrap64; omega), rfl, by first | rfl | simp, hor128, by omega, by omega⟩
             | exact ⟨rfl, k + 1, nn + 1, sb ||| x.toNat, false, by omega, rfl, by first | rfl | simp, by first | rfl | (simp; unfold RowKit.wrap64; omega), rfl, by first | rfl | simp, hor128, by omega, by omega⟩
             | exact ⟨rfl, k + 1, nn, sb ||| x.toNat, true, by omega, rfl, by first | rfl | simp, by first | rfl | (simp; unfold RowKit.wrap64; omega), rfl, by first | rfl | simp, hor128, by omega, by omega⟩)
    · obtain rfl : k = S.size := by omega
      generalize (if ws = true then (1 : Int) else 0) = v4
      have hkz : ¬ ((S.size : Int) < (S.size : Int)) := by omega
      have hsbz : ¬ ((128 : Int) ≤ (sb : Int)) := by omega
      obtain rfl : N = nn := by rw [← hlen, List.drop_length] at hc; simpa [Lib.cntF] using hc.symm
      clear hc
      go_upto_block 2 with fail
      clear hmk5
      go_cut [12] from 43 to 57 (fun s12 wx => W5 = wx ∧ ∃ i : Nat, s12 = .int .i64 i ∧ RestAt isSpaceR S [] i none ∧ (i < S.size → isSp (S.get! i) = false))
      case first =>
        go_wp2_with fail
        go_loopg [12] S.size (fun g s12 wx => W5 = wx ∧ ∃ i : Nat, g = S.size - i ∧ s12 = .int .i64 i ∧ RestAt isSpaceR S [] i none)
        case atStart => exact ⟨rfl, 0, rfl, rfl, RestAt.start _ S⟩
        case round =>
          obtain ⟨rfl, i, rfl, rfl, hat⟩ := hrel
          have hi := hat.1
          by_cases hin : i < S.size
          · have hiz : (i : Int) < (S.size : Int) := by omega
            obtain rfl := HQ.out (by omega)
            have hcb := HB.out W5 hb5 i hin
            have hx128 := HA.out i hin
            have hTx := HT.out W5 hb5 (S.get! i)
            have hd := HD.out i hin
            obtain ⟨x, hx⟩ : ∃ x, S.get! i = x := ⟨_, rfl⟩
            rw [hx] at hcb hx128 hTx hd
            have Hx := Lib.hid hx
            have hxz : (x.toNat : Int) < 256 := by omega
            clear hx
            cases hsx : Lib.isSp x <;> rw [hsx] at hTx <;> simp only [if_true, Bool.false_eq_true, if_false] at hTx
            · have HR := Lib.hid hat
              clear hat hd
              go_wp2
              go_meet
              exact ⟨rfl, i, rfl, HR.out, fun _ => by rw [Hx.out]; exact hsx⟩
            · have nx := hat.sep_none hin (by rw [hd]; exact (isSp_true hsx).2)
              rw [hd] at nx
              have NX := Lib.hid nx
              clear hat hd nx
              go_wp2
              go_roundg (S.size - (i + 1))
              case measure => omega
              case rel => exact ⟨rfl, i + 1, rfl, by first | rfl | simp, NX.out⟩
          · obtain rfl : i = S.size := by omega
            have hiz : ¬ ((S.size : Int) < (S.size : Int)) := by omega
            have HR := Lib.hid hat
            clear hat
            go_wp2
            go_meet
            exact ⟨rfl, S.size, rfl, HR.out, fun h => absurd h (Nat.lt_irrefl _)⟩
      case rest =>
        obtain ⟨rfl, i0, rfl, hat0, hns0⟩ := hcut
        have hi0 := hat0.1
        have H0 := Lib.hid hat0
        have H1 := Lib.hid hns0
        clear hat0 hns0
        go_wp2
        go_loopg [10, 11, 12] (S.size - i0) (fun g s10 s11 s12 wx => ∃ (done : List (Nat × Nat)) (fs i : Nat) (st : Option Nat), s10 = .int .i64 done.length ∧ s11 = .int .i64 fs ∧ s12 = .int .i64 i ∧ g = S.size - i ∧ RestAt isSpaceR S done i st ∧ ((fs < i ∧ st = some fs) ∨ (fs = i ∧ st = none ∧ (i < S.size → isSp (S.get! i) = false))) ∧
          wx.ownsRow w.heap.size 33 1 (.slice (some ⟨w.heap.size, 0, none⟩) N N) N (rowD bk oo done N) ∧ Below w.heap.size w wx)
        case atStart => exact ⟨[], i0, i0, none, rfl, rfl, rfl, rfl, H0.out, .inr ⟨rfl, rfl, H1.out⟩, hown5, hb5⟩
        case round =>
          obtain ⟨done, fs, i, st, rfl, rfl, rfl, rfl, hat, hst, hrow, hbr⟩ := hrel
          have hi := hat.1
          clear H0 H1
          by_cases hin : i < S.size
          · have hiz : (i : Int) < (S.size : Int) := by omega
            obtain rfl := HQ.out (by omega)
            have hcb := HB.out wr hbr i hin
            have hx128 := HA.out i hin
            have hTx := HT.out wr hbr (S.get! i)
            have hd := HD.out i hin
            obtain ⟨x, hx⟩ : ∃ x, S.get! i = x := ⟨_, rfl⟩
            rw [hx] at hcb hx128 hTx hd
            rw [hx] at hst
            have hxz : (x.toNat : Int) < 256 := by omega
            clear hx
            cases hsx : Lib.isSp x <;> rw [hsx] at hTx <;> simp only [if_true, Bool.false_eq_true, if_false] at hTx
            · have hps : isSpaceR (Utf8.decode S i).1 = false := by rw [hd]; exact isSp_false hsx hx128
              have nx : RestAt isSpaceR S done (i + 1) (some fs) ∧ fs < i + 1 := by
                rcases hst with ⟨h1, rfl⟩ | ⟨rfl, rfl, _⟩
                · have := hat.in_some hin hps
                  rw [hd] at this
                  exact ⟨this, by omega⟩
                · have := hat.in_none hin hps
                  rw [hd] at this
                  exact ⟨this, by omega⟩
              have NX := Lib.hid nx
              clear nx hat hst hd hps
              go_wp2
              go_roundg (S.size - (i + 1))
              case measure => omega
              case rel => exact ⟨done, fs, i + 1, some fs, rfl, rfl, by first | rfl | simp, rfl, NX.out.1, .inl ⟨NX.out.2, rfl⟩, hrow, hbr⟩
            · have hps : isSpaceR (Utf8.decode S i).1 = true := by rw [hd]; exact (isSp_true hsx).2
              obtain ⟨hlt, rfl⟩ : fs < i ∧ st = some fs := by
                rcases hst with h | ⟨rfl, _, h⟩
                · exact h
                · have := h hin
                  rw [hsx] at this
                  cases this
              have nx := hat.sep_some hin hps
              rw [hd] at nx
              have hdN : done.length < N := by
                have := (hat.next hin hps).length_le
                rw [HN.out] at this
                simp at this
                omega
              have NX := Lib.hid nx
              clear nx hat hst hd hps
              obtain ⟨old, hold⟩ : ∃ old, (rowD bk oo done N)[done.length]? = some old := ⟨_, List.getElem?_eq_getElem (by have := hrow.1; omega)⟩
              have hcA := (hrow.cellAt done.length (by omega)).trans hold
              have hfA := hrow.frozenAt done.length
              have hst' := hrow.stored done.length (.slice (some ⟨bk, oo + fs, none⟩) (i - fs) (i - fs))
              rw [rowD_set bk oo done N fs i hdN] at hst'
              have hbs : Below w.heap.size w _ := hbr.grown hst'.2 hbr.size (fun k hk => by cases hk; exact Nat.le_refl _)
              have hrow2 := hst'.1
              have hdz : ((done.length : Nat) : Int) < (N : Int) := by omega
              have c0 : (0 : Int) ≤ (fs : Int) := by omega
              have c1 : (fs : Int) ≤ (i : Int) := by omega
              have c2 : (i : Int) ≤ (cp : Int) := by omega
              have c3 : ¬ cp = fs := by omega
              have HRW := Lib.hid hrow2
              have HBS := Lib.hid hbs
              clear hold hst' hrow hrow2 hbs
              go_wp2
              clear hcA hfA hTx hcb
              go_loopg [12] (S.size - (i + 1)) (fun g s12 wx => wr.setCell ⟨w.heap.size, done.length, none⟩ (.slice (some ⟨bk, oo + fs, none⟩) (i - fs) (i - fs)) = wx ∧ ∃ j : Nat, i + 1 ≤ j ∧ g = S.size - j ∧ s12 = .int .i64 j ∧ RestAt isSpaceR S (done ++ [(fs, i)]) j none)
              case atStart => exact ⟨by simp, i + 1, Nat.le_refl _, rfl, by first | rfl | simp, NX.out⟩
              case round =>
                obtain ⟨rfl, j, hij, rfl, rfl, hatj⟩ := hrel
                have hj := hatj.1
                clear NX hx128 hxz hsx
                by_cases hjn : j < S.size
                · have hjz : (j : Int) < (S.size : Int) := by omega
                  have hcb := HB.out _ HBS.out j hjn
                  have hx128 := HA.out j hjn
                  have hTx := HT.out _ HBS.out (S.get! j)
                  have hd := HD.out j hjn
                  obtain ⟨x, hx⟩ : ∃ x, S.get! j = x := ⟨_, rfl⟩
                  rw [hx] at hcb hx128 hTx hd
                  have Hx := Lib.hid hx
                  have hxz : (x.toNat : Int) < 256 := by omega
                  clear hx
                  cases hsx : Lib.isSp x <;> rw [hsx] at hTx <;> simp only [if_true, Bool.false_eq_true, if_false] at hTx
                  · have HR := Lib.hid hatj
                    clear hatj hd
                    go_wp2
                    go_roundg (S.size - j)
                    case measure => omega
                    case rel => exact ⟨done ++ [(fs, i)], j, j, none, by simp, rfl, rfl, rfl, HR.out, .inr ⟨rfl, rfl, fun _ => by rw [Hx.out]; exact hsx⟩, HRW.out, HBS.out⟩
                  · have nx := hatj.sep_none hjn (by rw [hd]; exact (isSp_true hsx).2)
                    rw [hd] at nx
                    have NX := Lib.hid nx
                    clear hatj hd nx
                    go_wp2
                    go_roundg (S.size - (j + 1))
                    case measure => omega
                    case rel => exact ⟨rfl, j + 1, by omega, rfl, by first | rfl | simp, NX.out⟩
                · obtain rfl : j = S.size := by omega
                  have hjz : ¬ ((S.size : Int) < (S.size : Int)) := by omega
                  have HR := Lib.hid hatj
                  clear hatj
                  go_wp2
                  go_roundg (S.size - S.size)
                  case measure => omega
                  case rel => exact ⟨done ++ [(fs, i)], S.size, S.size, none, by simp, rfl, rfl, rfl, HR.out, .inr ⟨rfl, rfl, fun h => absurd h (Nat.lt_irrefl _)⟩, HRW.out, HBS.out⟩
          · obtain rfl : i = S.size := by omega
            have hiz : ¬ ((S.size : Int) < (S.size : Int)) := by omega
            rcases hst with ⟨hfl, rfl⟩ | ⟨rfl, rfl, _⟩
            · obtain rfl := HQ.out (by omega)
              have hflz : (fs : Int) < (S.size : Int) := by omega
              have hl := hat.last_some hin
              have hdN : done.length + 1 = N := by
                have := congrArg List.length hl
                rw [HN.out] at this
                simpa using this.symm
              have HL := Lib.hid hl
              obtain ⟨old, hold⟩ : ∃ old, (rowD bk oo done N)[done.length]? = some old := ⟨_, List.getElem?_eq_getElem (by have := hrow.1; omega)⟩
              have hcA := (hrow.cellAt done.length (by omega)).trans hold
              have hfA := hrow.frozenAt done.length
              have hst' := hrow.stored done.length (.slice (some ⟨bk, oo + fs, none⟩) (S.size - fs) (S.size - fs))
              rw [rowD_set bk oo done N fs S.size (by omega)] at hst'
              have hbs : Below w.heap.size w _ := hbr.grown hst'.2 hbr.size (fun k hk => by cases hk; exact Nat.le_refl _)
              have fin : PartPost w ((spansOfP isSpaceR S).map (pieceV bk oo)) (.returned (.slice (some ⟨w.heap.size, 0, none⟩) N N)) (wr.setCell ⟨w.heap.size, done.length, none⟩ (.slice (some ⟨bk, oo + fs, none⟩) (S.size - fs) (S.size - fs))) := by
                have e1 : ((spansOfP isSpaceR S).map (pieceV bk oo)).length = N := by rw [List.length_map, HN.out]
                refine ⟨w.heap.size, by rw [e1], ?_, by simpa using hbs⟩
                rw [e1, HL.out, ← rowD_all, show (done ++ [(fs, S.size)]).length = N by simp; omega]
                simpa using hst'.1
              have FIN := Lib.hid fin
              have hdz : ((done.length : Nat) : Int) < (N : Int) := by omega
              have c0 : (0 : Int) ≤ (fs : Int) := by omega
              have c1 : (fs : Int) ≤ (S.size : Int) := by omega
              have c2 : (S.size : Int) ≤ (cp : Int) := by omega
              have c3 : ¬ cp = fs := by omega
              clear hl fin hold hst' hbs hrow hat hdN
              go_wp2
              go_ret
              exact FIN.out
            · have hflz : ¬ ((S.size : Int) < (S.size : Int)) := by omega
              have hl := hat.last_none hin
              have fin : PartPost w ((spansOfP isSpaceR S).map (pieceV bk oo)) (.returned (.slice (some ⟨w.heap.size, 0, none⟩) N N)) wr := by
                have e1 : ((spansOfP isSpaceR S).map (pieceV bk oo)).length = N := by rw [List.length_map, HN.out]
                refine ⟨w.heap.size, by rw [e1], ?_, hbr⟩
                have e2 : done.length = N := by rw [← hl, HN.out]
                rw [e1, hl, ← rowD_all, e2]
                exact hrow
              have FIN := Lib.hid fin
              clear hl fin hrow hat
              go_wp2
              go_ret
              exact FIN.out

set_option maxHeartbeats 8000000 in
set_option maxRecDepth 1000000 in
theorem bytesFields_beyond (S : ByteArray) (bk oo cp : Nat) (w : World) (hs : S.size ≤ 8388608) (hsc : S.size ≤ cp) (hcm : cp ≤ 9223372036854775807) (hU : U8Tab w) (hT : BsTab w) (hBA : BAt S bk oo w) (hhigh : ∃ j, j < S.size ∧ 128 ≤ (S.get! j).toNat) :
    Calls Tryd.prog 42 #[.slice (some ⟨bk, oo, none⟩) S.size cp] w (PartPost w ((spansOfP isSpaceR S).map (pieceV bk oo))) := by
  have h0 : 0 < S.size := by obtain ⟨j, hj, _⟩ := hhigh; omega
  have cF := bytesFF_space_pos S bk oo cp w hs h0 hsc hcm hU hBA hT.2
  generalize (spansOfP isSpaceR S).map (pieceV bk oo) = GF at cF ⊢
  have HH := Lib.hid hhigh
  have HB := Lib.hid hBA
  have HT : Hid (∀ x : UInt8, w.cell? ⟨1, x.toNat, none⟩ = some (.int .u8 (if isSp x then 1 else 0))) := fun x => asc_sp hT x
  clear hhigh hT hBA hU
  go_enter Tryd.func42, Tryd.ntmps42
  go_wp2
  go_loopg [3, 4, 5, 6] S.size (fun g s3 s4 s5 s6 wx => w = wx ∧ ∃ (k nn sb : Nat) (ws : Bool), k ≤ S.size ∧ g = S.size - k ∧ s6 = .int .i64 k ∧ s3 = .int .i64 nn ∧ s4 = .int .i64 (if ws then 1 else 0) ∧ s5 = .int .u8 sb ∧ sb < 256 ∧ nn ≤ k ∧
    Hid (∀ j, j < k → 128 ≤ (S.get! j).toNat → 128 ≤ sb))
  case atStart => exact ⟨rfl, 0, 0, 0, true, Nat.zero_le _, rfl, rfl, rfl, rfl, rfl, by omega, Nat.le_refl _, Lib.hid fun j hj => absurd hj (Nat.not_lt_zero _)⟩
  case round =>
    obtain ⟨rfl, k, nn, sb, ws, hk, rfl, rfl, rfl, rfl, rfl, hsb, hnk, hc⟩ := hrel
    by_cases hkn : k < S.size
    · have hkz : (k : Int) < (S.size : Int) := by omega
      have hcb := HB.out k hkn
      have hTx := HT.out (S.get! k)
      obtain ⟨x, hx⟩ : ∃ x, S.get! k = x := ⟨_, rfl⟩
      rw [hx] at hcb hTx
      have hx256 := x.toNat_lt
      have hxz : (x.toNat : Int) < 256 := by omega
      have hor : bits .or .u8 (sb : Int) (x.toNat : Int) = ((sb ||| x.toNat : Nat) : Int) := u8_or_nat _ _ (by omega) (by omega)
      have hor256 : sb ||| x.toNat < 256 := Nat.or_lt_two_pow (n := 8) hsb (by omega)
      have HC : Hid (∀ j, j < k + 1 → 128 ≤ (S.get! j).toNat → 128 ≤ sb ||| x.toNat) := fun j hj h8 => by
        rw [Lib.or_hi]
        by_cases e : j = k
        · subst e; rw [hx] at h8; exact .inr h8
        · exact .inl (hc.out j (by omega) h8)
      clear hc hx
      have b00 := andNot00; have b01 := andNot01; have b10 := andNot10; have b11 := andNot11
      cases hsx : Lib.isSp x <;> cases ws <;> rw [hsx] at hTx <;> simp only [if_true, Bool.false_eq_true, if_false] at hTx ⊢ <;>
        (go_wp2
         go_roundg (S.size - (k + 1))
         case measure => omega
         case rel =>
           first
             | exact ⟨rfl, k + 1, nn, sb ||| x.toNat, false, by omega, rfl, by first | rfl | simp, by first | rfl | (simp; unfold RowKit.wrap64; omega), rfl, by first | rfl | simp, hor256, by omega, HC⟩
             | exact ⟨rfl, k + 1, nn + 1, sb ||| x.toNat, false, by omega, rfl, by first | rfl | simp, by first | rfl | (simp; unfold RowKit.wrap64; omega), rfl, by first | rfl | simp, hor256, by omega, HC⟩
             | exact ⟨rfl, k + 1, nn, sb ||| x.toNat, true, by omega, rfl, by first | rfl | simp, by first | rfl | (simp; unfold RowKit.wrap64; omega), rfl, by first | rfl | simp, hor256, by omega, HC⟩)
    · obtain rfl : k = S.size := by omega
      generalize (if ws = true then (1 : Int) else 0) = v4
      have hkz : ¬ ((S.size : Int) < (S.size : Int)) := by omega
      have hsbz : (128 : Int) ≤ (sb : Int) := by
        obtain ⟨j, hj, h8⟩ := HH.out
        have := hc.out j hj h8
        omega
      clear hc
      go_wp2_with fail
      refine cF.mono ?_
      rintro e w' ⟨A, rfl, hrow, hb⟩
      have P : PartPost w GF (.returned (.slice (some ⟨A, 0, none⟩) GF.length GF.length)) w' := ⟨A, rfl, hrow, hb⟩
      clear hrow hb cF
      generalize GF.length = n at P ⊢
      go_wp2
      go_ret
      exact P

/-- bytes.Fields at every slice: what it returns are parts that are the pieces. -/
theorem bytesFields_any {q : Option Addr} {S : ByteArray} {cp : Nat} {w : World} (hq : Holds w q S) (hs : S.size ≤ 8388608) (hsc : S.size ≤ cp) (hcm : cp ≤ 9223372036854775807) (hU : U8Tab w) (hT : BsTab w) :
    ∃ bk oo, BAt S bk oo w ∧ Calls Tryd.prog 42 #[.slice q S.size cp] w (PartPost w ((spansOfP isSpaceR S).map (pieceV bk oo))) := by
  obtain ⟨bk, oo, hq', hBA⟩ : ∃ bk oo, (0 < S.size → q = some ⟨bk, oo, none⟩) ∧ BAt S bk oo w := by
    rcases Nat.eq_zero_or_pos S.size with h0 | hpos
    · exact ⟨0, 0, fun h => by omega, fun j hj => by omega⟩
    · obtain ⟨bk, oo, e, h⟩ := hq hpos
      exact ⟨bk, oo, fun _ => e, h⟩
  refine ⟨bk, oo, hBA, ?_⟩
  by_cases ha : ∀ j, j < S.size → (S.get! j).toNat < 128
  · exact bytesFields_ascii S q bk oo cp w hs hq' hsc hcm hT hBA ha
  · have hhigh : ∃ j, j < S.size ∧ 128 ≤ (S.get! j).toNat := by
      apply Classical.byContradiction
      intro hn
      exact ha fun j hj => Classical.byContradiction fun h => hn ⟨j, hj, by omega⟩
    obtain rfl := hq' (by obtain ⟨j, hj, _⟩ := hhigh; omega)
    exact bytesFields_beyond S bk oo cp w hs hsc hcm hU hT hBA hhigh

/-- bytes.FieldsFunc at the method value, at every slice. -/
theorem bytesFF_any {w : World} (RV : Value) (p : Nat → Bool) (hp : BoundPred RV p w) {q : Option Addr} {S : ByteArray} {cp : Nat} (hq : Holds w q S) (hs : S.size ≤ 8388608) (hsc : S.size ≤ cp) (hcm : cp ≤ 9223372036854775807) (hU : U8Tab w) :
    ∃ bk oo, BAt S bk oo w ∧ Calls Tryd.prog 43 #[.slice q S.size cp, .func (.func 37) #[RV] #[]] w (PartPost w ((spansOfP p S).map (pieceV bk oo))) := by
  rcases Nat.eq_zero_or_pos S.size with h0 | hpos
  · refine ⟨0, 0, fun j hj => by omega, ?_⟩
    have e : spansOfP p S = [] := by
      have := fields_len p S
      unfold goFieldsP at this
      rw [List.length_map] at this
      exact List.eq_nil_of_length_eq_zero (by omega)
    rw [e, h0]
    exact bytesFF_zero q cp _ w
  · obtain ⟨bk, oo, rfl, hBA⟩ := hq hpos
    exact ⟨bk, oo, hBA, bytesFF_has_pos RV p S bk oo cp w hs hpos hsc hcm hU hBA hp⟩
end Go.Proofs.YtchkjdopoanjdaaDoor.strs
