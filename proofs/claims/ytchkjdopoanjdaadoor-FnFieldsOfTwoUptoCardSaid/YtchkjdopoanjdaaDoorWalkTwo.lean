/-
  The walk of laws.FnFieldsOfTwo: it returns true, for strings of at most 1048576 bytes, where the tables hold what their initialisers lay.
-/
import Derived.Test.YtchkjdopoanjdaaDoorConcat
import Derived.Test.YtchkjdopoanjdaaDoorEqual
import Derived.Lib.SmallJoins
namespace Go.Proofs.YtchkjdopoanjdaaDoor.strs
open Go.Shelf Go.RowKit Go.Lib base sets iters plain
set_option linter.unusedVariables false

theorem sep_blank : Sep isSpaceR [32] 32 where
  cls := by decide
  fresh := fun v => .inr (by simp)
  dec := fun v => by
    rw [chars_cons (by simp)]
    show ((decodeL (32 :: v)).1, (32 :: v).take (decodeL (32 :: v)).2) :: chars ((32 :: v).drop (decodeL (32 :: v)).2) = _
    rw [decodeL_ascii 32 v (by decide)]
    rfl
theorem fields_two (s t : ByteArray) : goFieldsP isSpaceR (s ++ ⟨#[32]⟩ ++ t) = goFieldsP isSpaceR s ++ goFieldsP isSpaceR t := by
  rw [fields_ba, fields_ba, fields_ba, Joins.data_append, Joins.data_append, List.append_assoc]
  rw [show ((⟨#[32]⟩ : ByteArray).data.toList) = [32] from rfl, sep_two sep_blank, List.map_append]

set_option maxRecDepth 100000 in
set_option maxHeartbeats 4000000 in
theorem walkTwo (a0 a1 : ByteArray) (w : World) (m0 : a0.size ≤ 1048576) (m1 : a1.size ≤ 1048576) (tS : SpTab w) :
    Calls Tryd.prog 14 #[.string a0, .string a1] w fun e w' => e = .returned (.bool true) ∧ Below w.heap.size w w' := by
  have hl0 := fields_len isSpaceR a0
  have hl1 := fields_len isSpaceR a1
  have hsz : (a0 ++ ⟨#[32]⟩ ++ a1).size ≤ 2097153 := by
    rw [ByteArray.size_append, ByteArray.size_append, show (⟨#[32]⟩ : ByteArray).size = 1 from rfl]
    omega
  have hsz1 : (a0 ++ ⟨#[32]⟩).size ≤ 1048577 := by
    rw [ByteArray.size_append, show (⟨#[32]⟩ : ByteArray).size = 1 from rfl]
    omega
  have C1 : Hid (∀ W, Below w.heap.size w W → Calls Tryd.prog 17 #[.string a0] W (StrSome W (goFieldsP isSpaceR a0))) := fun W h => implFields_some a0 W (by omega) (tS.below h)
  have C2 : Hid (∀ W, Below w.heap.size w W → Calls Tryd.prog 17 #[.string a1] W (StrSome W (goFieldsP isSpaceR a1))) := fun W h => implFields_some a1 W (by omega) (tS.below h)
  have C3 : Hid (∀ W, Below w.heap.size w W → Calls Tryd.prog 17 #[.string (a0 ++ ⟨#[32]⟩ ++ a1)] W (StrPost W (goFieldsP isSpaceR a0 ++ goFieldsP isSpaceR a1))) := fun W h => by
    rw [← fields_two]
    exact implFields _ W (by omega) (tS.below h)
  have C4 : Hid (∀ W, Calls Tryd.prog 23 #[.string a0] W (StrPost W (goFieldsP isSpaceR a0))) := fun W => specFields a0 W (by omega)
  clear tS
  generalize goFieldsP isSpaceR a0 = XS at *
  generalize goFieldsP isSpaceR a1 = YS at *
  have lx : XS.length ≤ 4194304 := by omega
  have ly : YS.length ≤ 4194304 := by omega
  have lxy : (XS ++ YS).length ≤ 140737488351232 := by rw [List.length_append]; omega
  clear hl0 hl1
  go_enter Tryd.func14, Tryd.ntmps14
  go_wp2_with fail
  refine (C1.out _ (Below.refl _ _)).mono ?_
  rintro e u1 ⟨A1, rfl, hr1, hb1⟩
  go_wp2_with fail
  refine (C2.out _ hb1).mono ?_
  rintro e u2 ⟨A2, rfl, hr2, hb2⟩
  have hr1' := hr1.later hb2
  have k2 := hb1.trans (hb2.mono hb1.size)
  have al : Below u2.heap.size u2 (u2.alloc (.cells #[.slice (some ⟨A1, 0, none⟩) XS.length XS.length, .slice (some ⟨A2, 0, none⟩) YS.length YS.length] 25)) := below_box _ _
  have k3 := k2.trans (al.mono k2.size)
  have con := concat_two (b := u2.heap.size) (hr1'.later al) (hr2.later al) (World.cell?_alloc_new ..) (World.cell?_alloc_new ..) lx ly
  clear hr1 hr2 hr1' hb1 hb2 al k2
  go_wp2_with fail
  refine con.mono ?_
  rintro e u3 ⟨v3, rfl, hr3, hb3⟩
  have k4 := k3.trans (hb3.mono k3.size)
  clear con hb3 k3
  go_wp2_with fail
  refine (C3.out _ k4).mono ?_
  rintro e u4 ⟨v4, rfl, hr4, hb4⟩
  have hr3' := hr3.later hb4
  have k5 := k4.trans (hb4.mono k4.size)
  clear hr3 hb4 k4
  go_wp2_with fail
  refine (equal_same hr4 hr3' lxy).mono ?_
  rintro e u5 ⟨rfl, hb5⟩
  have k6 := k5.trans (hb5.mono k5.size)
  obtain ⟨a5, d5, rfl⟩ : ∃ a c, v3 = .slice a (XS ++ YS).length c := by
    rcases hr3'.form with ⟨rfl, e⟩ | ⟨g, c, rfl, _⟩
    · exact ⟨_, _, by rw [e]; rfl⟩
    · exact ⟨_, _, rfl⟩
  clear hr4 hr3' hb5 k5
  rcases Nat.eq_zero_or_pos (XS ++ YS).length with h0 | hpos
  · have hX : XS = [] := by
      have := List.eq_nil_of_length_eq_zero h0
      exact (List.append_eq_nil_iff.1 this).1
    subst hX
    rw [h0]
    go_wp2_with fail
    refine (C4.out _).mono ?_
    rintro e u6 ⟨v6, rfl, hr6, hb6⟩
    obtain ⟨a6, d6, rfl⟩ : ∃ a c, v6 = .slice a 0 c := by
      rcases hr6.form with ⟨rfl, e⟩ | ⟨g, c, rfl, _⟩
      · exact ⟨_, _, rfl⟩
      · exact ⟨_, _, rfl⟩
    have k7 := k6.trans (hb6.mono k6.size)
    clear hr6 hb6 k6
    go_wp2
    go_ret
    exact ⟨rfl, k7⟩
  · generalize (XS ++ YS).length = n at *
    have hp1 : (0 : Int) < (n : Int) := by omega
    go_wp2
    go_ret
    exact ⟨rfl, k6⟩
end Go.Proofs.YtchkjdopoanjdaaDoor.strs
