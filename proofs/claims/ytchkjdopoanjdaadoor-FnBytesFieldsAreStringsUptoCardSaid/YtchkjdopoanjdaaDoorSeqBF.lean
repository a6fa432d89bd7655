/-
  The contract of impl.BytesFieldsSeq: the first pieces of the slice's bytes, as many as one asks for.
-/
import Derived.Test.YtchkjdopoanjdaaDoorIterBF
import Derived.Test.YtchkjdopoanjdaaDoorSeqBFF
namespace Go.Proofs.YtchkjdopoanjdaaDoor.iters
open Go.RowKit Go.Shelf Go.Lib plain
set_option linter.unusedVariables false

set_option maxHeartbeats 1000000 in
theorem bytesFieldsSeq (q : Option Addr) (n cp : Nat) (w : World) :
    Calls Tryd.prog 45 #[.slice q n cp] w fun e w' => e = .returned (.func (.func 53) #[] #[.pointer (some ⟨w.heap.size, 0, none⟩)]) ∧ w.alloc (.cells #[.slice q n cp] 33) = w' := by
  go_enter Tryd.func45, Tryd.ntmps45
  go_wp2
  go_ret
  exact ⟨rfl, rfl⟩

theorem seenBF {w : World} (hS : BsTab w) (hU : U8Tab w) {q : Option Addr} {S : ByteArray} {cp : Nat} (hq : Holds w q S) (hsc : S.size ≤ cp) (hcm : cp ≤ 9223372036854775807) (hs : S.size ≤ 8388608) (most : Int) :
    Calls Tryd.prog 44 #[.func (.func 53) #[] #[.pointer (some ⟨w.heap.size, 0, none⟩)], .int .i64 most] (w.alloc (.cells #[.slice q S.size cp] 33)) (StrPost w (seenL (goFieldsP isSpaceR S) most)) := by
  have hsz : (w.alloc (.cells #[.slice q S.size cp] 33)).heap.size = w.heap.size + 1 := World.size_alloc _ _
  have hb : Below w.heap.size w (w.alloc (.cells #[.slice q S.size cp] 33)) := (Below.refl _ w).alloc (Nat.le_refl _) _
  have keep : ∀ V, Below (w.heap.size + 1) (w.alloc (.cells #[.slice q S.size cp] 33)) V → Below w.heap.size w V := fun V hV => hb.trans (hV.mono (Nat.le_succ _))
  have boxS := Boxed.new w 33 (.slice q S.size cp)
  obtain ⟨PS, str, hmap, hconv, hseq⟩ : ∃ (PS : List Part) (str : Part → ByteArray), PS.map str = goFieldsP isSpaceR S ∧ (∀ x ∈ PS, ∀ W, Below w.heap.size w W → (convert 33 9 x.val).run Tryd.prog W = .ok (.string (str x)) W) ∧
      SeqB Fence.wide 2 Tryd.prog 53 #[.pointer (some ⟨w.heap.size, 0, none⟩)] (fun x : Part => #[x.val]) (w.heap.size + 1) w.heap.size (fun ys => ys = PS) (fun pre => pre <+: PS) PS.length (w.alloc (.cells #[.slice q S.size cp] 33)) := by
    rcases Nat.eq_zero_or_pos S.size with h0 | hpos
    · have e0 : goFieldsP isSpaceR S = [] := by
        have := fields_len isSpaceR S
        exact List.eq_nil_of_length_eq_zero (by omega)
      rw [e0]
      refine ⟨[], fun _ => ⟨#[]⟩, rfl, fun x hx => (by cases hx), fun l J Jx W hW aJ aJx hY hJ => ?_⟩
      refine bfseq1_none l w.heap.size cp q J Jx W ?_ hJ
      rw [← h0]
      exact (hW.block _ (Nat.lt_succ_self _)).trans boxS
    · obtain ⟨bk, oo, rfl, hBA⟩ := hq hpos
      have hlt : bk < w.heap.size := hBA.lt hpos
      refine ⟨(spansOfP isSpaceR S).map (pieceAt bk oo), strAt oo S, pieces_str bk oo _ S, fun x hx W hW => parts_conv _ (hBA.keep hW hlt) x hx, fun l J Jx W hW aJ aJx hY hJ => ?_⟩
      exact bfseq1_in l w.heap.size (w.heap.size + 1) bk oo cp S (by omega) hsc hcm J Jx aJ aJx hY W (Nat.le_trans (Nat.le_of_eq hsz.symm) hW.size)
        ((hW.block _ (Nat.lt_succ_self _)).trans boxS) (hBA.keep (keep W hW) hlt) (by omega) (Nat.lt_succ_self _)
        (fun V hV => ⟨hU.below (keep V (hW.trans hV)), hS.below (keep V (hW.trans hV))⟩) hJ
  have hlen : PS.length ≤ 8388608 := by
    have h1 := congrArg List.length hmap
    rw [List.length_map] at h1
    have h2 := fields_len isSpaceR S
    omega
  have con2 := seenBytes_any 53 #[.pointer (some ⟨w.heap.size, 0, none⟩)] (enters_of Tryd.func53 (by kernel_rfl) rfl) most PS str (w.alloc (.cells #[.slice q S.size cp] 33)) (w.heap.size + 1) w.heap.size w.heap.size
    hseq (by rw [hsz]; exact Nat.le_refl _) (Nat.lt_succ_self _) (Nat.le_refl _) hlen (fun x hx W hW => hconv x hx W (hb.trans hW))
  rw [hmap] at con2
  exact con2.mono fun e w' ⟨v, he, hr, hb'⟩ => ⟨v, he, hr.base (by rw [hsz]; omega), hb.trans hb'⟩

set_option maxHeartbeats 1000000 in
theorem implBytesFieldsSeq {w : World} (hS : BsTab w) (hU : U8Tab w) {q : Option Addr} {S : ByteArray} {cp : Nat} (hq : Holds w q S) (hsc : S.size ≤ cp) (hcm : cp ≤ 9223372036854775807) (hs : S.size ≤ 8388608) (most : Int) :
    Calls Tryd.prog 27 #[.slice q S.size cp, .int .i64 most] w (StrPost w (seenL (goFieldsP isSpaceR S) most)) := by
  obtain ⟨fv, wz, con1, con2⟩ : ∃ fv wz, (Calls Tryd.prog 45 #[.slice q S.size cp] w fun e w' => e = .returned fv ∧ wz = w') ∧ Calls Tryd.prog 44 #[fv, .int .i64 most] wz (StrPost w (seenL (goFieldsP isSpaceR S) most)) :=
    ⟨_, _, bytesFieldsSeq q S.size cp w, seenBF hS hU hq hsc hcm hs most⟩
  have C2 := Lib.hid con2
  clear con2 hS hU hq
  generalize S.size = n at *
  go_enter Tryd.func27, Tryd.ntmps27
  go_wp2_with fail
  refine con1.mono ?_
  rintro e w' ⟨rfl, rfl⟩
  go_wp2_with fail
  refine C2.out.mono ?_
  rintro e w' ⟨v, rfl, hr, hb⟩
  go_wp2
  go_ret
  exact ⟨v, rfl, hr, hb⟩
end Go.Proofs.YtchkjdopoanjdaaDoor.iters
