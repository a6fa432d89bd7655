/-
  Contracts of impl.texts, impl.BytesFields and impl.BytesFieldsFunc: the pieces of the slice's bytes, as strings.
-/
import Derived.Test.YtchkjdopoanjdaaDoorBFields
import Derived.Test.YtchkjdopoanjdaaDoorImplFF
namespace Go.Proofs.YtchkjdopoanjdaaDoor.strs
open Go.Shelf Go.RowKit Go.Lib base sets plain iters
set_option linter.unusedVariables false

set_option maxHeartbeats 2000000 in
theorem texts_any {w : World} {B bk oo A : Nat} {S : ByteArray} {SP : List (Nat × Nat)} (hok : ∀ x ∈ SP, x.1 < x.2 ∧ x.2 ≤ S.size) (hBA : BAt S bk oo w) (hlen : SP.length ≤ 8388608)
    (hrow : w.ownsRow B 33 1 (.slice (some ⟨A, 0, none⟩) SP.length SP.length) SP.length (SP.map (pieceV bk oo))) :
    Calls Tryd.prog 41 #[.slice (some ⟨A, 0, none⟩) SP.length SP.length] w (StrPost w (SP.map (ext S))) := by
  obtain ⟨i0, hi, hz0, hz1, hz2⟩ := info_parts infoS
  have HO := Lib.hid hok
  have HB := Lib.hid hBA
  have HR : Hid (∀ V, Below w.heap.size w V → ∀ j x, SP[j]? = some x → V.cell? ⟨A, j, none⟩ = some (.slice (some ⟨bk, oo + x.1, none⟩) (x.2 - x.1) (x.2 - x.1))) := fun V hV j x hx => by
    have hj := (List.getElem?_eq_some_iff.1 hx).1
    have h1 := hrow.cellAt j (by omega)
    rw [List.getElem?_map, hx] at h1
    rw [hV.cell (p := ⟨A, j, none⟩) (cell_lt h1)]
    exact h1
  clear hok hBA hrow
  go_enter Tryd.func41, Tryd.ntmps41
  go_wp2
  go_loopg [3, 8] SP.length (fun gf s3 s8 wx => ∃ i : Nat, i + gf = SP.length ∧ s8 = .int .i64 i ∧ StrRow wx w.heap.size s3 ((SP.take i).map (ext S)) ∧ Below w.heap.size w wx)
  case atStart => exact ⟨0, by omega, rfl, StrRow.empty _ _, Below.refl _ _⟩
  case round =>
    obtain ⟨i, hig, rfl, hacc, hbr⟩ := hrel
    cases gk with
    | zero =>
      have hin : ¬ ((i : Int) < (SP.length : Int)) := by omega
      obtain rfl : i = SP.length := by omega
      have P : StrPost w (SP.map (ext S)) (.returned u3) wr := ⟨_, rfl, by rw [List.take_length] at hacc; exact hacc, hbr⟩
      clear hacc hbr
      go_wp2
      go_ret
      exact P
    | succ gf =>
      have hin : (i : Int) < (SP.length : Int) := by omega
      obtain ⟨x, hx⟩ : ∃ x, SP[i]? = some x := ⟨_, List.getElem?_eq_getElem (by omega)⟩
      have hxo := HO.out x (List.mem_of_getElem? hx)
      have hcl := HR.out wr hbr i x hx
      have hcv := part_conv (HB.out.below hbr) x.1 (x.2 - x.1) (x.2 - x.1) (by omega)
      rw [show x.1 + (x.2 - x.1) = x.2 by omega] at hcv
      have hBz := hbr.size
      have e : (SP.take (i + 1)).map (ext S) = (SP.take i).map (ext S) ++ [S.extract x.1 x.2] := by rw [List.take_add_one, hx]; simp
      have hal : ((SP.take i).map (ext S)).length = i := by simp; omega
      have E := Lib.hid e
      clear e hx
      generalize (SP.take i).map (ext S) = acc at *
      have hrow : wr.ownsRow w.heap.size 9 1 u3 acc.length (acc.map Value.string) := hacc
      clear hacc
      go_wp2_with (at_builtin; refine wpList_append_own _ rfl _ _ 25 rfl w.heap.size 9 i0 (.string ⟨#[]⟩) 1 16 Tryd.underlying25 hi hz0 hz1 hz2 rfl (by decide) _ _ _ rfl (World.ownsRow.alloc hrow _) ⟨wr.heap.size, 0, none⟩ 1 1 [.string (S.extract x.1 x.2)] rfl rfl (cell_one_new _ _ _) (by simp [Value.oneCell']) (by unfold maxLen; omega) (by omega) (by simp; omega) ?_; intro v' w1 hown' hgrow _)
      have hB1 : Below w.heap.size w w1 := (hbr.alloc hBz _).grown hgrow (by simp; omega) (fun j hj => (World.ownsRow.lt hrow j hj).1)
      go_wp2
      go_roundg gf
      case measure => omega
      case rel => exact ⟨i + 1, by omega, by go_num, by rw [E.out]; exact row_snoc hown', hB1⟩

theorem texts_post {w : World} {bk oo : Nat} {S : ByteArray} (p : Nat → Bool) (hBA : BAt S bk oo w) (hs : S.size ≤ 8388608) {e : Ending} {w1 : World} (h : PartPost w ((spansOfP p S).map (pieceV bk oo)) e w1) :
    ∃ v, e = .returned v ∧ Below w.heap.size w w1 ∧ Calls Tryd.prog 41 #[v] w1 (StrPost w1 (goFieldsP p S)) := by
  obtain ⟨A, he, hrow, hb⟩ := h
  rw [List.length_map] at he hrow
  have hsl := fields_len p S
  rw [fields_ext, List.length_map] at hsl
  exact ⟨_, he, hb, texts_any (spans_ok p S) (hBA.below hb) (by omega) hrow⟩

set_option maxHeartbeats 1000000 in
theorem implBytesFields {w : World} {q : Option Addr} {S : ByteArray} {cp : Nat} (hq : Holds w q S) (hs : S.size ≤ 8388608) (hsc : S.size ≤ cp) (hcm : cp ≤ 9223372036854775807) (hU : U8Tab w) (hT : BsTab w) :
    Calls Tryd.prog 25 #[.slice q S.size cp] w (StrPost w (goFieldsP isSpaceR S)) := by
  obtain ⟨bk, oo, hBA, con1⟩ := bytesFields_any hq hs hsc hcm hU hT
  have TP : Hid (∀ (e : Ending) (w1 : World), PartPost w ((spansOfP isSpaceR S).map (pieceV bk oo)) e w1 → ∃ v, e = .returned v ∧ Below w.heap.size w w1 ∧ Calls Tryd.prog 41 #[v] w1 (StrPost w1 (goFieldsP isSpaceR S))) := fun e w1 h => texts_post isSpaceR hBA hs h
  clear hq hU hT hBA
  generalize (spansOfP isSpaceR S).map (pieceV bk oo) = GF at *
  generalize goFieldsP isSpaceR S = XS at *
  generalize S.size = n at *
  go_enter Tryd.func25, Tryd.ntmps25
  go_wp2_with fail
  refine con1.mono ?_
  rintro e w1 hp
  obtain ⟨v, rfl, hb1, con2⟩ := TP.out e w1 hp
  clear hp con1 TP
  go_wp2_with fail
  refine con2.mono ?_
  rintro e w2 ⟨v2, rfl, hr, hb2⟩
  have P : StrPost w XS (.returned v2) w2 := ⟨_, rfl, hr.base hb1.size, hb1.trans (hb2.mono hb1.size)⟩
  clear hr hb1 hb2 con2
  go_wp2
  go_ret
  exact P

set_option maxHeartbeats 1000000 in
theorem implBytesFieldsFunc {w : World} {a : Option Addr} {l c : Nat} {zs : List Int} (h : IsRow .i32 w a l c zs) (hU : U8Tab w) (neg : Bool) {q : Option Addr} {S : ByteArray} {cp : Nat} (hq : Holds w q S) (hs : S.size ≤ 8388608) (hsc : S.size ≤ cp) (hcm : cp ≤ 9223372036854775807) :
    Calls Tryd.prog 26 #[.slice q S.size cp, .agg #[.slice a l c, .bool neg]] w (StrPost w (goFieldsP (clsP (zs.take l) neg) S)) := by
  have hB := below_box w (.cells #[.slice a l c, .bool neg] 24)
  obtain ⟨bk, oo, hBA, con1⟩ := bytesFF_any (.agg #[.slice a l c, .bool neg]) (clsP (zs.take l) neg) (boundClass h hB neg) (hq.below hB) hs hsc hcm (hU.below hB)
  have TP : Hid (∀ (e : Ending) (w1 : World), PartPost (w.alloc (.cells #[.slice a l c, .bool neg] 24)) ((spansOfP (clsP (zs.take l) neg) S).map (pieceV bk oo)) e w1 → ∃ v, e = .returned v ∧ Below w.heap.size w w1 ∧ Calls Tryd.prog 41 #[v] w1 (StrPost w1 (goFieldsP (clsP (zs.take l) neg) S))) := fun e w1 h => by
    obtain ⟨v, he, hb, hc⟩ := texts_post (clsP (zs.take l) neg) hBA hs h
    exact ⟨v, he, hB.trans (hb.mono hB.size), hc⟩
  clear hq hU hBA hB h
  generalize (spansOfP (clsP (zs.take l) neg) S).map (pieceV bk oo) = GF at *
  generalize goFieldsP (clsP (zs.take l) neg) S = XS at *
  generalize S.size = n at *
  go_enter Tryd.func26, Tryd.ntmps26
  go_wp2_with fail
  refine con1.mono ?_
  rintro e w1 hp
  obtain ⟨v, rfl, hb1, con2⟩ := TP.out e w1 hp
  clear hp con1 TP
  go_wp2_with fail
  refine con2.mono ?_
  rintro e w2 ⟨v2, rfl, hr, hb2⟩
  have P : StrPost w XS (.returned v2) w2 := ⟨_, rfl, hr.base hb1.size, hb1.trans (hb2.mono hb1.size)⟩
  clear hr hb1 hb2 con2
  go_wp2
  go_ret
  exact P
end Go.Proofs.YtchkjdopoanjdaaDoor.strs
