/-
  bytes.FieldsSeq: the iterator that it returns yields the parts of the slice that are the pieces of its bytes.
-/
import Derived.Test.YtchkjdopoanjdaaDoorIterF
import Derived.Test.YtchkjdopoanjdaaDoorBPlain
import Derived.Test.YtchkjdopoanjdaaDoorDecB
namespace Go.Proofs.YtchkjdopoanjdaaDoor.iters
open Go.RowKit Go.Shelf Go.Lib plain
set_option linter.unusedVariables false
attribute [local go_sem] Oper.semAt_some

theorem asc_cellB {w : World} (h : BsTab w) (b : Nat) (hb : b < 256) : w.cell? ⟨1, b, none⟩ = some (.int .u8 (asciiSpaceTab.getD b 0)) :=
  h.1.cell (by kernel_rfl) b (by rw [asciiSpaceTab_length]; exact hb)

set_option maxRecDepth 100000 in
set_option maxHeartbeats 16000000 in
theorem bfseq1_in (l Bs n0 bk oo cp : Nat) (s : ByteArray) (hs : s.size ≤ 140737488351232) (hsc : s.size ≤ cp) (hcm : cp ≤ 9223372036854775807) (J Jx : List Part → World → Prop) (aJ : Abides Bs J) (aJx : Abides Bs Jx)
    (hY : ∀ pre x W1, J pre W1 → pre.length < ((spansOfP isSpaceR s).map (pieceAt bk oo)).length → (pre ++ [x] = (spansOfP isSpaceR s).map (pieceAt bk oo) ∨ pre ++ [x] <+: (spansOfP isSpaceR s).map (pieceAt bk oo)) → YieldAt Fence.wide 1 Tryd.prog l #[.slice x.1 x.2.1 x.2.2] W1 (RoundPost n0 (pre ++ [x]) J Jx W1))
    (W : World) (hn0 : n0 ≤ W.heap.size) (hB : Boxed W Bs 33 (.slice (some ⟨bk, oo, none⟩) s.size cp)) (hBA : BAt s bk oo W) (hbn : bk < n0) (hBs : Bs < n0) (hT : ∀ V, Below n0 W V → U8Tab V ∧ BsTab V) (h0 : J [] W) :
    CallsIn Fence.wide 2 Tryd.prog 53 #[.func (.yield l) #[] #[], .pointer (some ⟨Bs, 0, none⟩)] W (IterPost ((spansOfP isSpaceR s).map (pieceAt bk oo)) J Jx) := by
  refine callsIn_of_wp Tryd.func53 rfl trivial ?_ rfl
  simp only [Tryd.ntmps53, List.size_toArray, List.length_cons, List.length_nil, Nat.reduceAdd, Nat.reduceSub, Array.replicate_succ, Array.replicate_zero, List.push_toArray, List.append_toArray, List.nil_append, List.cons_append]
  have HT := Lib.hid hT
  have HY := Lib.hid hY
  clear hT hY
  gi_wp2
  gi_loopw [3, 4] (fun o i wr => ∃ (pre : List (Nat × Nat)) (pos : Nat) (st : Option Nat), o = .int .i64 (stZ st) ∧ i = .int .i64 pos ∧ RestAt isSpaceR s pre pos st ∧ J (pre.map (pieceAt bk oo)) wr ∧ Below n0 W wr)
    (fun _ i _ => s.size - (intOf i).toNat)
  case atStart =>
    exact ⟨[], 0, none, rfl, rfl, RestAt.start isSpaceR s, h0, Below.refl _ _⟩
  case round =>
    obtain ⟨pre, pos, st, rfl, rfl, hat, hJ, hW⟩ := hrel
    have hps := hat.1
    have b0 : Boxed wr Bs 33 (.slice (some ⟨bk, oo, none⟩) s.size cp) := (hW.block Bs hBs).trans hB
    have hc := b0.cell
    have hz := hW.size
    by_cases hlt : pos < s.size
    · have con1 := decB s bk oo cp wr (HT.out wr hW).1 (hBA.keep hW hbn) pos hlt
      have hwn := width_fit s pos hlt
      have hwd := width_pos s pos
      have hru := rune_le s pos
      have i1 : (0 : Int) ≤ (pos : Int) := by omega
      have i2 : (pos : Int) ≤ (s.size : Int) := by omega
      have i3 : (pos : Int) < (s.size : Int) := by omega
      have j1 : (pos : Int) ≤ (cp : Int) := by omega
      have j2 : (pos : Int) < (cp : Int) := by omega
      have j3 : ¬ cp = pos := by omega
      have j4 : (s.size : Int) ≤ (cp : Int) := by omega
      have hcb := hBA.keep hW hbn pos hlt
      obtain ⟨b, hb⟩ : ∃ b : Nat, (s.get! pos).toNat = b := ⟨_, rfl⟩
      rw [hb] at hcb
      have hb256 : b < 256 := by rw [← hb]; exact UInt8.toNat_lt _
      have hasc : b < 128 → Utf8.decode s pos = (b, 1) := fun h => by
        have := ascii_at s pos hlt (by rw [hb]; exact h)
        rw [this, hb]
      clear hb
      have htc := asc_cellB (HT.out wr hW).2 b hb256
      have htt := asc_test b
      generalize asciiSpaceTab.getD b 0 = T at *
      cases hp : isSpaceR (Utf8.decode s pos).1
      · -- no separator
        have nx : ∃ st', (stZ st' = if stZ st < 0 then (pos : Int) else stZ st) ∧ RestAt isSpaceR s pre (pos + (Utf8.decode s pos).2) st' := by
          cases st with
          | none => exact ⟨some pos, rfl, hat.in_none hlt hp⟩
          | some a => exact ⟨some a, by simp [stZ]; omega, hat.in_some hlt hp⟩
        obtain ⟨st', hst', nx⟩ := nx
        have NX := Lib.hid nx
        generalize hD : Utf8.decode s pos = D at *
        obtain ⟨R, K⟩ := D
        dsimp only at *
        have hPx : ∀ V, Below n0 W V → Calls Tryd.prog 48 #[.int .i32 (R : Int)] V fun e w' => e = .returned (.bool false) ∧ Below V.heap.size V w' := fun V hV => by rw [← hp, ← isSpaceZ_nat]; exact Tryd.unicode_IsSpace_any (R : Int) V (by omega) (by omega) (HT.out V hV).2.2
        have HX := Lib.hid hPx
        clear nx hat hD hPx
        have hsz : stZ st < 0 ∨ ¬ stZ st < 0 := by omega
        by_cases ha : b < 128
        · obtain ⟨rfl, rfl⟩ := Prod.mk.inj (hasc ha)
          have tt : (!(T == 0)) = false := (htt ha).trans hp
          obtain rfl : T = 0 := by simpa using tt
          clear tt
          clear hasc htt con1 HX hp
          rcases hsz with hneg | hneg
          · rw [if_pos hneg] at hst'
            have HS := Lib.hid hst'
            clear hst'
            generalize stZ st = z at *
            gi_wp2
            go_roundw
            case rel => exact ⟨pre, pos + 1, st', by rw [HS.out], by go_num, NX.out, hJ, hW⟩
            case measure => simp [intOf]; omega
          · rw [if_neg hneg] at hst'
            have HS := Lib.hid hst'
            clear hst'
            generalize stZ st = z at *
            gi_wp2
            go_roundw
            case rel => exact ⟨pre, pos + 1, st', by rw [HS.out], by go_num, NX.out, hJ, hW⟩
            case measure => simp [intOf]; omega
        · have hge : (128 : Int) ≤ (b : Int) := by omega
          clear hasc htt hp
          rcases hsz with hneg | hneg
          · rw [if_pos hneg] at hst'
            have HS := Lib.hid hst'
            clear hst'
            generalize stZ st = z at *
            gi_wp2_with (first | (refine ⟨trivial, ?_⟩; gi_at_call 52; refine (callsIn_wide.2 con1).mono ?_; rintro e w1 ⟨rfl, hb1⟩; have k1 : Below n0 W w1 := hW.trans (hb1.mono (by omega)); have c1 := (show Boxed w1 Bs 33 (.slice (some ⟨bk, oo, none⟩) s.size cp) from (k1.block Bs hBs).trans hB).cell; have jb1 := aJ _ _ _ hJ (grown_of_below (some Bs) hb1)) | (refine ⟨trivial, ?_⟩; gi_at_call 48; refine (callsIn_wide.2 (HX.out w1 k1)).mono ?_; rintro e w2 ⟨rfl, hb2⟩; have k2 : Below n0 W w2 := k1.trans (hb2.mono (Nat.le_trans hn0 k1.size)); have c2 := (show Boxed w2 Bs 33 (.slice (some ⟨bk, oo, none⟩) s.size cp) from (k2.block Bs hBs).trans hB).cell; have jb2 := aJ _ _ _ jb1 (grown_of_below (some Bs) hb2)))
            go_roundw
            case rel => exact ⟨pre, pos + K, st', by rw [HS.out], by go_num, NX.out, jb2, k2⟩
            case measure => simp [intOf]; omega
          · rw [if_neg hneg] at hst'
            have HS := Lib.hid hst'
            clear hst'
            generalize stZ st = z at *
            gi_wp2_with (first | (refine ⟨trivial, ?_⟩; gi_at_call 52; refine (callsIn_wide.2 con1).mono ?_; rintro e w1 ⟨rfl, hb1⟩; have k1 : Below n0 W w1 := hW.trans (hb1.mono (by omega)); have c1 := (show Boxed w1 Bs 33 (.slice (some ⟨bk, oo, none⟩) s.size cp) from (k1.block Bs hBs).trans hB).cell; have jb1 := aJ _ _ _ hJ (grown_of_below (some Bs) hb1)) | (refine ⟨trivial, ?_⟩; gi_at_call 48; refine (callsIn_wide.2 (HX.out w1 k1)).mono ?_; rintro e w2 ⟨rfl, hb2⟩; have k2 : Below n0 W w2 := k1.trans (hb2.mono (Nat.le_trans hn0 k1.size)); have c2 := (show Boxed w2 Bs 33 (.slice (some ⟨bk, oo, none⟩) s.size cp) from (k2.block Bs hBs).trans hB).cell; have jb2 := aJ _ _ _ jb1 (grown_of_below (some Bs) hb2)))
            go_roundw
            case rel => exact ⟨pre, pos + K, st', by rw [HS.out], by go_num, NX.out, jb2, k2⟩
            case measure => simp [intOf]; omega
      · -- a separator
        cases st with
        | none =>
          have nx := hat.sep_none hlt hp
          have NX := Lib.hid nx
          generalize hD : Utf8.decode s pos = D at *
          obtain ⟨R, K⟩ := D
          dsimp only at *
          have hPx : ∀ V, Below n0 W V → Calls Tryd.prog 48 #[.int .i32 (R : Int)] V fun e w' => e = .returned (.bool true) ∧ Below V.heap.size V w' := fun V hV => by rw [← hp, ← isSpaceZ_nat]; exact Tryd.unicode_IsSpace_any (R : Int) V (by omega) (by omega) (HT.out V hV).2.2
          have HX := Lib.hid hPx
          clear nx hat hD hPx
          simp only [stZ]
          by_cases ha : b < 128
          · obtain ⟨rfl, rfl⟩ := Prod.mk.inj (hasc ha)
            have tt : (!(T == 0)) = true := (htt ha).trans hp
            have tz : (T == 0) = false := by simpa using tt
            have ty : ¬ T = 0 := by simpa using tt
            clear hasc htt con1 HX hp
            gi_wp2
            go_roundw
            case rel => exact ⟨pre, pos + 1, none, rfl, by go_num, NX.out, hJ, hW⟩
            case measure => simp [intOf]; omega
          · have hge : (128 : Int) ≤ (b : Int) := by omega
            clear hasc htt hp
            gi_wp2_with (first | (refine ⟨trivial, ?_⟩; gi_at_call 52; refine (callsIn_wide.2 con1).mono ?_; rintro e w1 ⟨rfl, hb1⟩; have k1 : Below n0 W w1 := hW.trans (hb1.mono (by omega)); have c1 := (show Boxed w1 Bs 33 (.slice (some ⟨bk, oo, none⟩) s.size cp) from (k1.block Bs hBs).trans hB).cell; have jb1 := aJ _ _ _ hJ (grown_of_below (some Bs) hb1)) | (refine ⟨trivial, ?_⟩; gi_at_call 48; refine (callsIn_wide.2 (HX.out w1 k1)).mono ?_; rintro e w2 ⟨rfl, hb2⟩; have k2 : Below n0 W w2 := k1.trans (hb2.mono (Nat.le_trans hn0 k1.size)); have c2 := (show Boxed w2 Bs 33 (.slice (some ⟨bk, oo, none⟩) s.size cp) from (k2.block Bs hBs).trans hB).cell; have jb2 := aJ _ _ _ jb1 (grown_of_below (some Bs) hb2)))
            go_roundw
            case rel => exact ⟨pre, pos + K, none, rfl, by go_num, NX.out, jb2, k2⟩
            case measure => simp [intOf]; omega
        | some a =>
          have ha0 := hat.2.1 a rfl
          have nx := hat.sep_some hlt hp
          have hpre := hat.next hlt hp
          have NX := Lib.hid nx
          have HQ := Lib.hid hpre
          generalize hD : Utf8.decode s pos = D at *
          obtain ⟨R, K⟩ := D
          dsimp only at *
          have hPx : ∀ V, Below n0 W V → Calls Tryd.prog 48 #[.int .i32 (R : Int)] V fun e w' => e = .returned (.bool true) ∧ Below V.heap.size V w' := fun V hV => by rw [← hp, ← isSpaceZ_nat]; exact Tryd.unicode_IsSpace_any (R : Int) V (by omega) (by omega) (HT.out V hV).2.2
          have HX := Lib.hid hPx
          clear nx hat hD hPx hpre
          simp only [stZ]
          have i4 : (0 : Int) ≤ (a : Int) := by omega
          have i5 : (a : Int) ≤ (pos : Int) := by omega
          have j5 : ¬ cp = a := by omega
          by_cases ha : b < 128
          · obtain ⟨rfl, rfl⟩ := Prod.mk.inj (hasc ha)
            have tt : (!(T == 0)) = true := (htt ha).trans hp
            have tz : (T == 0) = false := by simpa using tt
            have ty : ¬ T = 0 := by simpa using tt
            clear hasc htt con1 HX hp
            obtain ⟨fn, tmps, assign, body, hy, hR⟩ := HY.out _ (some ⟨bk, oo + a, none⟩, pos - a, pos - a) wr hJ (lt_of_snoc (by rw [← piece_snoc]; exact HQ.out.map _)) (.inr (by rw [← piece_snoc]; exact HQ.out.map _))
            dsimp only at hy
            gi_wp2
            refine hR.mono ?_
            rintro e W3 (⟨rfl, hJ3, hk3⟩ | ⟨rfl, hJx3⟩)
            · have k3 := hW.trans hk3
              have c3 := (show Boxed W3 Bs 33 (.slice (some ⟨bk, oo, none⟩) s.size cp) from (k3.block Bs hBs).trans hB).cell
              gi_wp2
              go_roundw
              case rel => exact ⟨pre ++ [(a, pos)], pos + 1, none, rfl, by go_num, NX.out, by rw [piece_snoc]; exact hJ3, k3⟩
              case measure => simp [intOf]; omega
            · gi_wp2
              refine bodyPost_ret (results_none rfl _ _ _) rfl ?_
              exact ⟨⟨_, rfl⟩, .inr ⟨pre.map (pieceAt bk oo) ++ [(some ⟨bk, oo + a, none⟩, pos - a, pos - a)], by rw [← piece_snoc]; exact HQ.out.map _, hJx3⟩⟩
          · have hge : (128 : Int) ≤ (b : Int) := by omega
            clear hasc htt hp
            gi_wp2_with (first | (refine ⟨trivial, ?_⟩; gi_at_call 52; refine (callsIn_wide.2 con1).mono ?_; rintro e w1 ⟨rfl, hb1⟩; have k1 : Below n0 W w1 := hW.trans (hb1.mono (by omega)); have c1 := (show Boxed w1 Bs 33 (.slice (some ⟨bk, oo, none⟩) s.size cp) from (k1.block Bs hBs).trans hB).cell; have jb1 := aJ _ _ _ hJ (grown_of_below (some Bs) hb1)) | (refine ⟨trivial, ?_⟩; gi_at_call 48; refine (callsIn_wide.2 (HX.out w1 k1)).mono ?_; rintro e w2 ⟨rfl, hb2⟩; have k2 : Below n0 W w2 := k1.trans (hb2.mono (Nat.le_trans hn0 k1.size)); have c2 := (show Boxed w2 Bs 33 (.slice (some ⟨bk, oo, none⟩) s.size cp) from (k2.block Bs hBs).trans hB).cell; have jb2 := aJ _ _ _ jb1 (grown_of_below (some Bs) hb2); obtain ⟨fn, tmps, assign, body, hy, hR⟩ := HY.out _ (some ⟨bk, oo + a, none⟩, pos - a, pos - a) w2 jb2 (lt_of_snoc (by rw [← piece_snoc]; exact HQ.out.map _)) (.inr (by rw [← piece_snoc]; exact HQ.out.map _)); dsimp only at hy))
            refine hR.mono ?_
            rintro e W3 (⟨rfl, hJ3, hk3⟩ | ⟨rfl, hJx3⟩)
            · have k3 := k2.trans hk3
              have c3 := (show Boxed W3 Bs 33 (.slice (some ⟨bk, oo, none⟩) s.size cp) from (k3.block Bs hBs).trans hB).cell
              gi_wp2
              go_roundw
              case rel => exact ⟨pre ++ [(a, pos)], pos + K, none, rfl, by go_num, NX.out, by rw [piece_snoc]; exact hJ3, k3⟩
              case measure => simp [intOf]; omega
            · gi_wp2
              refine bodyPost_ret (results_none rfl _ _ _) rfl ?_
              exact ⟨⟨_, rfl⟩, .inr ⟨pre.map (pieceAt bk oo) ++ [(some ⟨bk, oo + a, none⟩, pos - a, pos - a)], by rw [← piece_snoc]; exact HQ.out.map _, hJx3⟩⟩
    · cases st with
      | none =>
        have hl := hat.last_none hlt
        have HL := Lib.hid hl
        clear hl hat
        simp only [stZ]
        gi_wp2
        go_end0
        exact ⟨⟨_, rfl⟩, .inl ⟨pre.map (pieceAt bk oo), by rw [HL.out], hJ⟩⟩
      | some a =>
        have ha := hat.2.1 a rfl
        have hl := hat.last_some hlt
        have HL := Lib.hid hl
        clear hl hat
        simp only [stZ]
        have i4 : (0 : Int) ≤ (a : Int) := by omega
        have i5 : (a : Int) ≤ (s.size : Int) := by omega
        have e9 : (spansOfP isSpaceR s).map (pieceAt bk oo) = pre.map (pieceAt bk oo) ++ [(some ⟨bk, oo + a, none⟩, s.size - a, s.size - a)] := by rw [HL.out, piece_snoc]
        obtain ⟨fn, tmps, assign, body, hy, hR⟩ := HY.out _ (some ⟨bk, oo + a, none⟩, s.size - a, s.size - a) wr hJ (by rw [e9]; simp) (.inl e9.symm)
        have E9 := Lib.hid e9
        have j5 : (s.size : Int) ≤ (cp : Int) := by omega
        have j6 : ¬ cp = a := by omega
        clear e9
        dsimp only at hy
        gi_wp2
        refine hR.mono ?_
        rintro e W3 (⟨rfl, hJ3, hk3⟩ | ⟨rfl, hJx3⟩)
        · gi_wp2
          go_end0
          exact ⟨⟨_, rfl⟩, .inl ⟨_, E9.out.symm, hJ3⟩⟩
        · gi_wp2
          go_end0
          exact ⟨⟨_, rfl⟩, .inr ⟨_, by rw [E9.out]; exact List.prefix_rfl, hJx3⟩⟩

set_option maxRecDepth 100000 in
set_option maxHeartbeats 1000000 in
theorem bfseq1_none (l Bs cp : Nat) (q : Option Addr) (J Jx : List Part → World → Prop) (W : World) (hB : Boxed W Bs 33 (.slice q 0 cp)) (h0 : J [] W) :
    CallsIn Fence.wide 2 Tryd.prog 53 #[.func (.yield l) #[] #[], .pointer (some ⟨Bs, 0, none⟩)] W (IterPost [] J Jx) := by
  refine callsIn_of_wp Tryd.func53 rfl trivial ?_ rfl
  simp only [Tryd.ntmps53, List.size_toArray, List.length_cons, List.length_nil, Nat.reduceAdd, Nat.reduceSub, Array.replicate_succ, Array.replicate_zero, List.push_toArray, List.append_toArray, List.nil_append, List.cons_append]
  have hcl := hB.cell
  gi_wp2
  gi_loopw [3, 4] (fun o i wr => o = .int .i64 (-1) ∧ i = .int .i64 0 ∧ wr.cell? ⟨Bs, 0, none⟩ = some (.slice q 0 cp) ∧ J [] wr) (fun _ _ _ => 0)
  case atStart => exact ⟨rfl, rfl, hcl, h0⟩
  case round =>
    obtain ⟨rfl, rfl, hc, hJ⟩ := hrel
    gi_wp2
    go_end0
    exact ⟨⟨_, rfl⟩, .inl ⟨[], rfl, hJ⟩⟩
end Go.Proofs.YtchkjdopoanjdaaDoor.iters
