/-
  The contract of impl.FieldsSeq: the first pieces of the string without white space, as many as one asks for.
-/
import Derived.Test.YtchkjdopoanjdaaDoorIterF
namespace Go.Proofs.YtchkjdopoanjdaaDoor.iters
open Go.RowKit Go.Shelf Go.Lib plain
set_option linter.unusedVariables false

set_option maxHeartbeats 1000000 in
theorem stringsFieldsSeq (s : ByteArray) (w : World) :
    Calls Tryd.prog 35 #[.string s] w fun e w' => e = .returned (.func (.func 49) #[] #[.pointer (some ⟨w.heap.size, 0, none⟩)]) ∧ w.alloc (.cells #[.string s] 9) = w' := by
  go_enter Tryd.func35, Tryd.ntmps35
  go_wp2
  go_ret
  exact ⟨rfl, rfl⟩

theorem seenF (s : ByteArray) (hs : s.size ≤ 8388608) (most : Int) (w : World) (hS : SpTab w) (hU : U8Tab w) :
    Calls Tryd.prog 34 #[.func (.func 49) #[] #[.pointer (some ⟨w.heap.size, 0, none⟩)], .int .i64 most] (w.alloc (.cells #[.string s] 9)) (StrPost w (seenL (goFieldsP isSpaceR s) most)) := by
  have hsz : (w.alloc (.cells #[.string s] 9)).heap.size = w.heap.size + 1 := World.size_alloc _ _
  have hb : Below w.heap.size w (w.alloc (.cells #[.string s] 9)) := (Below.refl _ w).alloc (Nat.le_refl _) _
  have keep : ∀ V, Below (w.heap.size + 1) (w.alloc (.cells #[.string s] 9)) V → Below w.heap.size w V := fun V hV => hb.trans (hV.mono (Nat.le_succ _))
  have con2 := seen_any 49 #[.pointer (some ⟨w.heap.size, 0, none⟩)] (enters_of Tryd.func49 (by kernel_rfl) rfl) most (goFieldsP isSpaceR s) (w.alloc (.cells #[.string s] 9)) (w.heap.size + 1) w.heap.size w.heap.size
    (fun l J Jx W hW aJ aJx hY h0 => fseq1_in l w.heap.size (w.heap.size + 1) s (by omega) J Jx aJ aJx hY W (Nat.le_trans (Nat.le_of_eq hsz.symm) hW.size) ((hW.block _ (Nat.lt_succ_self _)).trans (Boxed.new w 9 (.string s))) (Nat.lt_succ_self _) (fun V hV => ⟨hU.below (keep V (hW.trans hV)), hS.below (keep V (hW.trans hV))⟩) h0)
    (by rw [hsz]; exact Nat.le_refl _) (Nat.lt_succ_self _) (Nat.le_refl _) (Nat.le_trans (fields_len _ s) hs)
  exact con2.mono fun e w' ⟨v, he, hr, hb'⟩ => ⟨v, he, hr.base (by rw [hsz]; omega), hb.trans hb'⟩

set_option maxHeartbeats 1000000 in
theorem implFieldsSeq (s : ByteArray) (hs : s.size ≤ 8388608) (most : Int) (w : World) (hS : SpTab w) (hU : U8Tab w) : Calls Tryd.prog 19 #[.string s, .int .i64 most] w (StrPost w (seenL (goFieldsP isSpaceR s) most)) := by
  obtain ⟨fv, wz, con1, con2⟩ : ∃ fv wz, (Calls Tryd.prog 35 #[.string s] w fun e w' => e = .returned fv ∧ wz = w') ∧ Calls Tryd.prog 34 #[fv, .int .i64 most] wz (StrPost w (seenL (goFieldsP isSpaceR s) most)) :=
    ⟨_, _, stringsFieldsSeq s w, seenF s hs most w hS hU⟩
  have C2 := Lib.hid con2
  clear con2 hS hU
  go_enter Tryd.func19, Tryd.ntmps19
  go_wp2_with fail
  refine con1.mono ?_
  rintro e w' ⟨rfl, rfl⟩
  go_wp2_with fail
  refine C2.out.mono ?_
  rintro e w' ⟨v, rfl, hr, hb⟩
  go_wp2
  go_ret
  exact ⟨v, rfl, hr, hb⟩
end Go.Proofs.YtchkjdopoanjdaaDoor.iters
