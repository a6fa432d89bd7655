/-
  The contract of impl.BytesFieldsFuncSeq: the first pieces of the slice's bytes, as many as one asks for.
-/
import Derived.Test.YtchkjdopoanjdaaDoorIterBFF
import Derived.Test.YtchkjdopoanjdaaDoorSeqFF
namespace Go.Proofs.YtchkjdopoanjdaaDoor.iters
open Go.RowKit Go.Shelf Go.Lib plain base sets strs
set_option linter.unusedVariables false

set_option maxHeartbeats 1000000 in
theorem bytesFieldsFuncSeq (q : Option Addr) (n cp : Nat) (RV : Value) (w : World) :
    Calls Tryd.prog 46 #[.slice q n cp, .func (.func 37) #[RV] #[]] w fun e w' => e = .returned (.func (.func 54) #[] #[.pointer (some ⟨w.heap.size, 0, none⟩), .pointer (some ⟨w.heap.size + 1, 0, none⟩)]) ∧ (w.alloc (.cells #[.slice q n cp] 33)).alloc (.cells #[.func (.func 37) #[RV] #[]] 55) = w' := by
  go_enter Tryd.func46, Tryd.ntmps46
  go_wp2
  go_ret
  exact ⟨rfl, rfl⟩

/-- What the parts of a slice are as strings. -/
theorem parts_conv {S : ByteArray} {bk oo : Nat} {W : World} (p : Nat → Bool) (hL : BAt S bk oo W) : ∀ x ∈ (spansOfP p S).map (pieceAt bk oo), (convert 33 9 x.val).run Tryd.prog W = .ok (.string (strAt oo S x)) W := by
  intro x hx
  obtain ⟨y, hy, rfl⟩ := List.mem_map.1 hx
  have hok := spans_ok p S y hy
  rw [piece_str bk oo S y hok.1]
  have := part_conv hL y.1 (y.2 - y.1) (y.2 - y.1) (by omega)
  rw [show y.1 + (y.2 - y.1) = y.2 by omega] at this
  exact this

/-- seenBytes, of the iterator over a slice. -/
theorem seenBFF {w w1 : World} {a : Option Addr} {l c : Nat} {zs : List Int} (h : IsRow .i32 w a l c zs) (hB : Below w.heap.size w w1) (hU : U8Tab w) (neg : Bool) {q : Option Addr} {S : ByteArray} {cp : Nat} (hq : Holds w q S) (hsc : S.size ≤ cp) (hcm : cp ≤ 9223372036854775807) (hs : S.size ≤ 8388608) (most : Int) :
    Calls Tryd.prog 44 #[.func (.func 54) #[] #[.pointer (some ⟨w1.heap.size, 0, none⟩), .pointer (some ⟨w1.heap.size + 1, 0, none⟩)], .int .i64 most]
      ((w1.alloc (.cells #[.slice q S.size cp] 33)).alloc (.cells #[.func (.func 37) #[.agg #[.slice a l c, .bool neg]] #[]] 55)) (StrPost w (seenL (goFieldsP (clsP (zs.take l) neg) S) most)) := by
  have hsz : ((w1.alloc (.cells #[.slice q S.size cp] 33)).alloc (.cells #[.func (.func 37) #[.agg #[.slice a l c, .bool neg]] #[]] 55)).heap.size = w1.heap.size + 2 := by rw [World.size_alloc, World.size_alloc]
  have hb2 : Below w1.heap.size w1 ((w1.alloc (.cells #[.slice q S.size cp] 33)).alloc (.cells #[.func (.func 37) #[.agg #[.slice a l c, .bool neg]] #[]] 55)) := ((Below.refl _ w1).alloc (Nat.le_refl _) _).alloc (by simp) _
  have hbw := hB.trans (hb2.mono hB.size)
  have keep : ∀ V, Below (w1.heap.size + 2) ((w1.alloc (.cells #[.slice q S.size cp] 33)).alloc (.cells #[.func (.func 37) #[.agg #[.slice a l c, .bool neg]] #[]] 55)) V → Below w.heap.size w V := fun V hV => hbw.trans (hV.mono (by have := hB.size; omega))
  have boxS : Boxed ((w1.alloc (.cells #[.slice q S.size cp] 33)).alloc (.cells #[.func (.func 37) #[.agg #[.slice a l c, .bool neg]] #[]] 55)) w1.heap.size 33 (.slice q S.size cp) := (Boxed.new w1 33 (.slice q S.size cp)).alloc _
  have boxF : Boxed ((w1.alloc (.cells #[.slice q S.size cp] 33)).alloc (.cells #[.func (.func 37) #[.agg #[.slice a l c, .bool neg]] #[]] 55)) (w1.heap.size + 1) 55 (.func (.func 37) #[.agg #[.slice a l c, .bool neg]] #[]) := by
    have := Boxed.new (w1.alloc (.cells #[.slice q S.size cp] 33)) 55 (.func (.func 37) #[.agg #[.slice a l c, .bool neg]] #[])
    rwa [World.size_alloc] at this
  obtain ⟨PS, str, hmap, hconv, hseq⟩ : ∃ (PS : List Part) (str : Part → ByteArray), PS.map str = goFieldsP (clsP (zs.take l) neg) S ∧ (∀ x ∈ PS, ∀ W, Below w.heap.size w W → (convert 33 9 x.val).run Tryd.prog W = .ok (.string (str x)) W) ∧
      SeqB Fence.wide 2 Tryd.prog 54 #[.pointer (some ⟨w1.heap.size, 0, none⟩), .pointer (some ⟨w1.heap.size + 1, 0, none⟩)] (fun x : Part => #[x.val]) (w1.heap.size + 2) w1.heap.size (fun ys => ys = PS) (fun pre => pre <+: PS) PS.length ((w1.alloc (.cells #[.slice q S.size cp] 33)).alloc (.cells #[.func (.func 37) #[.agg #[.slice a l c, .bool neg]] #[]] 55)) := by
    rcases Nat.eq_zero_or_pos S.size with h0 | hpos
    · have e0 : goFieldsP (clsP (zs.take l) neg) S = [] := by
        have := fields_len (clsP (zs.take l) neg) S
        exact List.eq_nil_of_length_eq_zero (by omega)
      rw [e0]
      refine ⟨[], fun _ => ⟨#[]⟩, rfl, fun x hx => (by cases hx), fun l J Jx W hW aJ aJx hY hJ => ?_⟩
      refine bffseq1_none l w1.heap.size (w1.heap.size + 1) cp q J Jx W ?_ hJ
      rw [← h0]
      exact (hW.block _ (by omega)).trans boxS
    · obtain ⟨bk, oo, rfl, hBA⟩ := hq hpos
      have hlt : bk < w.heap.size := hBA.lt hpos
      have hlt1 : bk < w1.heap.size := Nat.lt_of_lt_of_le hlt hB.size
      refine ⟨(spansOfP (clsP (zs.take l) neg) S).map (pieceAt bk oo), strAt oo S, pieces_str bk oo _ S, fun x hx W hW => parts_conv _ (hBA.keep hW hlt) x hx, fun l J Jx W hW aJ aJx hY hJ => ?_⟩
      exact bffseq1_in l w1.heap.size (w1.heap.size + 1) (w1.heap.size + 2) bk oo cp (.agg #[.slice a _ c, .bool neg]) (clsP (zs.take _) neg) S (by omega) hsc hcm J Jx aJ aJx hY W (Nat.le_trans (Nat.le_of_eq hsz.symm) hW.size)
        ((hW.block _ (by omega)).trans boxS) ((hW.block _ (by omega)).trans boxF) (hBA.keep (keep W hW) hlt) (by omega) (by omega) (by omega)
        (fun V hV => hU.below (keep V (hW.trans hV))) (fun V hV x hx => boundClass h (keep V (hW.trans hV)) neg V x hx (Below.refl _ _)) hJ
  have hlen : PS.length ≤ 8388608 := by
    have h1 := congrArg List.length hmap
    rw [List.length_map] at h1
    have h2 := fields_len (clsP (zs.take l) neg) S
    omega
  have con2 := seenBytes_any 54 #[.pointer (some ⟨w1.heap.size, 0, none⟩), .pointer (some ⟨w1.heap.size + 1, 0, none⟩)] (enters_of Tryd.func54 (by kernel_rfl) rfl) most PS str
    ((w1.alloc (.cells #[.slice q S.size cp] 33)).alloc (.cells #[.func (.func 37) #[.agg #[.slice a l c, .bool neg]] #[]] 55)) (w1.heap.size + 2) w1.heap.size w1.heap.size
    hseq (by rw [hsz]; exact Nat.le_refl _) (by omega) (Nat.le_refl _) hlen (fun x hx W hW => hconv x hx W (hbw.trans (hW.mono hB.size)))
  rw [hmap] at con2
  refine con2.mono fun e w' ⟨v, he, hr, hb'⟩ => ⟨v, he, hr.base (by have := hB.size; rw [hsz]; omega), hbw.trans (hb'.mono hB.size)⟩

set_option maxHeartbeats 1000000 in
theorem implBytesFieldsFuncSeq {w : World} {a : Option Addr} {l c : Nat} {zs : List Int} (h : IsRow .i32 w a l c zs) (hU : U8Tab w) (neg : Bool) {q : Option Addr} {S : ByteArray} {cp : Nat} (hq : Holds w q S) (hsc : S.size ≤ cp) (hcm : cp ≤ 9223372036854775807) (hs : S.size ≤ 8388608) (most : Int) :
    Calls Tryd.prog 28 #[.slice q S.size cp, .agg #[.slice a l c, .bool neg], .int .i64 most] w (StrPost w (seenL (goFieldsP (clsP (zs.take l) neg) S) most)) := by
  obtain ⟨fv, wz, con1, con2⟩ : ∃ fv wz, (Calls Tryd.prog 46 #[.slice q S.size cp, .func (.func 37) #[.agg #[.slice a l c, .bool neg]] #[]] (w.alloc (.cells #[.slice a l c, .bool neg] 24)) fun e w' => e = .returned fv ∧ wz = w') ∧ Calls Tryd.prog 44 #[fv, .int .i64 most] wz (StrPost w (seenL (goFieldsP (clsP (zs.take l) neg) S) most)) :=
    ⟨_, _, bytesFieldsFuncSeq q S.size cp (.agg #[.slice a l c, .bool neg]) (w.alloc (.cells #[.slice a l c, .bool neg] 24)), seenBFF h (below_box w (.cells #[.slice a l c, .bool neg] 24)) hU neg hq hsc hcm hs most⟩
  have C2 := Lib.hid con2
  clear con2 h hU hq
  generalize S.size = n at *
  go_enter Tryd.func28, Tryd.ntmps28
  go_wp2_with fail
  refine con1.mono ?_
  rintro e w' ⟨rfl, rfl⟩
  go_wp2_with fail
  refine C2.out.mono ?_
  rintro e w' ⟨v, rfl, hr, hb⟩
  go_wp2
  go_ret
  exact ⟨v, rfl, hr, hb⟩
end Go.Proofs.YtchkjdopoanjdaaDoor.iters
