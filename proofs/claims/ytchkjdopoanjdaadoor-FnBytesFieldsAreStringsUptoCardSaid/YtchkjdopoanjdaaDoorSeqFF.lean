/-
  The contract of impl.FieldsFuncSeq: the first pieces of the string, as many as one asks for.
-/
import Derived.Test.YtchkjdopoanjdaaDoorIterFF
import Derived.Test.YtchkjdopoanjdaaDoorImplFF
namespace Go.Proofs.YtchkjdopoanjdaaDoor.iters
open Go.RowKit Go.Shelf Go.Lib plain base sets strs
set_option linter.unusedVariables false

theorem ffseq_seq (Bs Bf n0 : Nat) (RV : Value) (p : Nat → Bool) (s : ByteArray) (hs : s.size ≤ 140737488351232) (w : World) (hn0 : n0 ≤ w.heap.size) (hB : Boxed w Bs 9 (.string s)) (hF : Boxed w Bf 55 (.func (.func 37) #[RV] #[])) (hBs : Bs < n0) (hBf : Bf < n0)
    (hT : ∀ V, Below n0 w V → U8Tab V) (hP : ∀ V, Below n0 w V → ∀ x : Nat, x ≤ 1114111 → Calls Tryd.prog 37 #[RV, .int .i32 (x : Int)] V fun e w' => e = .returned (.bool (p x)) ∧ Below V.heap.size V w') :
    SeqB Fence.wide 2 Tryd.prog 51 #[.pointer (some ⟨Bs, 0, none⟩), .pointer (some ⟨Bf, 0, none⟩)] (fun x : ByteArray => #[.string x]) n0 Bs (fun ys => ys = goFieldsP p s) (fun pre => pre <+: goFieldsP p s) (goFieldsP p s).length w :=
  fun l J Jx W hW aJ aJx hY h0 => ffseq1_in l Bs Bf n0 RV p s hs J Jx aJ aJx hY W (Nat.le_trans hn0 hW.size) ((hW.block Bs hBs).trans hB) ((hW.block Bf hBf).trans hF) hBs hBf (fun V hV => hT V (hW.trans hV)) (fun V hV => hP V (hW.trans hV)) h0

set_option maxHeartbeats 1000000 in
theorem stringsFieldsFuncSeq (s : ByteArray) (RV : Value) (w : World) :
    Calls Tryd.prog 36 #[.string s, .func (.func 37) #[RV] #[]] w fun e w' => e = .returned (.func (.func 51) #[] #[.pointer (some ⟨w.heap.size, 0, none⟩), .pointer (some ⟨w.heap.size + 1, 0, none⟩)]) ∧ (w.alloc (.cells #[.string s] 9)).alloc (.cells #[.func (.func 37) #[RV] #[]] 55) = w' := by
  go_enter Tryd.func36, Tryd.ntmps36
  go_wp2
  go_ret
  exact ⟨rfl, rfl⟩

/-- seen, of the iterator over a string. -/
theorem seenFF {w w1 : World} {a : Option Addr} {l c : Nat} {zs : List Int} (h : IsRow .i32 w a l c zs) (hB : Below w.heap.size w w1) (hU : U8Tab w) (neg : Bool) (s : ByteArray) (hs : s.size ≤ 8388608) (most : Int) :
    Calls Tryd.prog 34 #[.func (.func 51) #[] #[.pointer (some ⟨w1.heap.size, 0, none⟩), .pointer (some ⟨w1.heap.size + 1, 0, none⟩)], .int .i64 most]
      ((w1.alloc (.cells #[.string s] 9)).alloc (.cells #[.func (.func 37) #[.agg #[.slice a l c, .bool neg]] #[]] 55)) (StrPost w (seenL (goFieldsP (clsP (zs.take l) neg) s) most)) := by
  have hsz : ((w1.alloc (.cells #[.string s] 9)).alloc (.cells #[.func (.func 37) #[.agg #[.slice a l c, .bool neg]] #[]] 55)).heap.size = w1.heap.size + 2 := by rw [World.size_alloc, World.size_alloc]
  have hb2 : Below w1.heap.size w1 ((w1.alloc (.cells #[.string s] 9)).alloc (.cells #[.func (.func 37) #[.agg #[.slice a l c, .bool neg]] #[]] 55)) := ((Below.refl _ w1).alloc (Nat.le_refl _) _).alloc (by simp) _
  have hbw := hB.trans (hb2.mono hB.size)
  have keep : ∀ V, Below (w1.heap.size + 2) ((w1.alloc (.cells #[.string s] 9)).alloc (.cells #[.func (.func 37) #[.agg #[.slice a l c, .bool neg]] #[]] 55)) V → Below w.heap.size w V := fun V hV => hbw.trans (hV.mono (by have := hB.size; omega))
  have con2 := seen_any 51 #[.pointer (some ⟨w1.heap.size, 0, none⟩), .pointer (some ⟨w1.heap.size + 1, 0, none⟩)] (enters_of Tryd.func51 (by kernel_rfl) rfl) most (goFieldsP (clsP (zs.take l) neg) s)
    ((w1.alloc (.cells #[.string s] 9)).alloc (.cells #[.func (.func 37) #[.agg #[.slice a l c, .bool neg]] #[]] 55)) (w1.heap.size + 2) w1.heap.size w1.heap.size
    (ffseq_seq w1.heap.size (w1.heap.size + 1) (w1.heap.size + 2) (.agg #[.slice a l c, .bool neg]) (clsP (zs.take l) neg) s (by omega) _ (by rw [hsz]; exact Nat.le_refl _)
      ((Boxed.new w1 9 (.string s)).alloc _) (by have := Boxed.new (w1.alloc (.cells #[.string s] 9)) 55 (.func (.func 37) #[.agg #[.slice a l c, .bool neg]] #[]); rwa [World.size_alloc] at this) (by omega) (by omega)
      (fun V hV => hU.below (keep V hV)) (fun V hV x hx => boundClass h (keep V hV) neg V x hx (Below.refl _ _)))
    (by rw [hsz]; exact Nat.le_refl _) (by omega) (Nat.le_refl _) (Nat.le_trans (fields_len _ s) hs)
  refine con2.mono fun e w' ⟨v, he, hr, hb'⟩ => ⟨v, he, hr.base (by have := hB.size; rw [hsz]; omega), hbw.trans (hb'.mono hB.size)⟩

set_option maxHeartbeats 1000000 in
theorem implFieldsFuncSeq {w : World} {a : Option Addr} {l c : Nat} {zs : List Int} (h : IsRow .i32 w a l c zs) (hU : U8Tab w) (neg : Bool) (s : ByteArray) (hs : s.size ≤ 8388608) (most : Int) :
    Calls Tryd.prog 21 #[.string s, .agg #[.slice a l c, .bool neg], .int .i64 most] w (StrPost w (seenL (goFieldsP (clsP (zs.take l) neg) s) most)) := by
  obtain ⟨fv, wz, con1, con2⟩ : ∃ fv wz, (Calls Tryd.prog 36 #[.string s, .func (.func 37) #[.agg #[.slice a l c, .bool neg]] #[]] (w.alloc (.cells #[.slice a l c, .bool neg] 24)) fun e w' => e = .returned fv ∧ wz = w') ∧ Calls Tryd.prog 34 #[fv, .int .i64 most] wz (StrPost w (seenL (goFieldsP (clsP (zs.take l) neg) s) most)) :=
    ⟨_, _, stringsFieldsFuncSeq s (.agg #[.slice a l c, .bool neg]) (w.alloc (.cells #[.slice a l c, .bool neg] 24)), seenFF h (below_box w (.cells #[.slice a l c, .bool neg] 24)) hU neg s hs most⟩
  have C2 := Lib.hid con2
  clear con2 h hU
  go_enter Tryd.func21, Tryd.ntmps21
  go_wp2_with fail
  refine con1.mono ?_
  rintro e w' ⟨rfl, rfl⟩
  go_wp2_with fail
  refine C2.out.mono ?_
  rintro e w' ⟨v, rfl, hr, hb⟩
  go_wp2
  go_ret
  exact ⟨v, rfl, hr, hb⟩
end Go.Proofs.YtchkjdopoanjdaaDoor.iters
