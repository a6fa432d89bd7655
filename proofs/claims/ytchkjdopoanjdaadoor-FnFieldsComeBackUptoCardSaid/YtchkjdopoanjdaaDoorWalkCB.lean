/-
  The walk of laws.FnFieldsComeBack: it returns true, for strings of at most 1048576 bytes, where the tables hold what their initialisers lay.
-/
import Derived.Test.YtchkjdopoanjdaaDoorCBPlain
import Derived.Test.YtchkjdopoanjdaaDoorEqual
namespace Go.Proofs.YtchkjdopoanjdaaDoor.strs
open Go.Shelf Go.RowKit Go.Lib base sets iters plain
set_option linter.unusedVariables false

theorem kind_at (a : Int) : ∃ i : Nat, i < 25 ∧ (wrap64 (a.tmod 25 + 25)).tmod 25 = (i : Int) := by
  have h1 := Int.tmod_lt_of_pos a (show (0 : Int) < 25 by omega)
  have h2 := Int.lt_tmod_of_pos a (show (0 : Int) < 25 by omega)
  generalize a.tmod 25 = t at *
  have e : wrap64 (t + 25) = t + 25 := by unfold wrap64; omega
  rw [e, Int.tmod_eq_emod_of_nonneg (by omega)]
  exact ⟨((t + 25) % 25).toNat, by omega, by omega⟩
theorem space_cell {u : World} {b i : Nat} (h : IsRow .i32 u (some ⟨b, 0, none⟩) 25 25 spaces) (hi : i < 25) : ∃ z ∈ spaces, u.cell? ⟨b, i, none⟩ = some (.int .i32 z) := by
  rcases h with ⟨h, _⟩ | ⟨x, hx, _, _, hz, hcell, _⟩
  · cases h
  · cases hx
    refine ⟨spaces.getD i 0, ?_, ?_⟩
    · have : i < spaces.length := hi
      simp [List.getD, List.getElem?_eq_getElem this]
    · have := hcell i hi
      rwa [Go.WideShapes.add_plain, Nat.zero_add] at this

set_option maxRecDepth 100000 in
set_option maxHeartbeats 4000000 in
theorem walkCB (a0 : ByteArray) (a1 a2 a3 : Int) (w : World) (m0 : a0.size ≤ 1048576) (w1 : (Lit.int .i64 a1).wf = true) (w2 : (Lit.int .i64 a2).wf = true) (w3 : (Lit.int .i64 a3).wf = true) (tS : SpTab w) :
    Calls Tryd.prog 12 #[.string a0, .int .i64 a1, .int .i64 a2, .int .i64 a3] w fun e w' => e = .returned (.bool true) ∧ Below w.heap.size w w' := by
  have hlen := fields_len isSpaceR a0
  have con1 := implFields a0 w (by omega) tS
  have C4 : Hid (∀ W, Calls Tryd.prog 23 #[.string a0] W (StrPost W (goFieldsP isSpaceR a0))) := fun W => specFields a0 W (by omega)
  have TS := Lib.hid tS
  have HJ : Hid (∀ e, IsSep e → goFieldsP isSpaceR (joinB e (goFieldsP isSpaceR a0)) = goFieldsP isSpaceR a0 ∧ (joinB e (goFieldsP isSpaceR a0)).size ≤ a0.size + 4 * a0.size) := fun e he => joined_fields a0 he
  obtain ⟨i, hi, hidx⟩ := kind_at a1
  have hi0 : (0 : Int) ≤ (i : Int) := by omega
  have hi1 : (i : Int) < 25 := by omega
  have b2 := Int.tmod_lt_of_pos a2 (show (0 : Int) < 10 by omega)
  have b3 := Int.tmod_lt_of_pos a3 (show (0 : Int) < 10 by omega)
  clear tS w1 w2 w3
  generalize goFieldsP isSpaceR a0 = XS at *
  have hlx : XS.length ≤ 140737488351232 := by omega
  go_enter Tryd.func12, Tryd.ntmps12
  go_wp2_with fail
  refine con1.mono ?_
  rintro e u1 ⟨v1, rfl, hr1, hb1⟩
  clear con1
  go_wp2_with fail
  refine (specSpaces u1).mono ?_
  rintro e u2 ⟨b, rfl, hrow, hb2⟩
  obtain ⟨z, hz, hcl⟩ := space_cell hrow hi
  have hsep := sep_of z hz
  have hr2 := hr1.later hb2
  have k2 := hb1.trans (hb2.mono hb1.size)
  clear hr1 hb1 hb2 hrow hz
  obtain ⟨j1, j2⟩ := HJ.out _ hsep
  have hse : (Utf8.encode z).size ≤ 4 := hsep.2
  have con2 := joined_any hr2 (Utf8.encode z) hlx (by omega)
  have SEP := Lib.hid hsep
  have J1 := Lib.hid j1
  have R2 := Lib.hid hr2
  obtain ⟨ra, rc, rfl⟩ : ∃ a c, v1 = .slice a XS.length c := by
    rcases hr2.form with ⟨rfl, e⟩ | ⟨g, c, rfl, _⟩
    · exact ⟨_, _, by rw [e]; rfl⟩
    · exact ⟨_, _, rfl⟩
  clear j1 hsep hr2 HJ
  generalize joinB (Utf8.encode z) XS = T at *
  have hT : T.size ≤ 5242880 := by omega
  clear j2
  go_wp2_with (go_at_call 31; generalize Utf8.encode z = sp at *; refine con2.mono ?_; rintro e u3 ⟨rfl, rfl⟩)
  clear con2 hidx hcl
  go_loopg [12, 35] 10 (fun gf s12 s35 wx => u2 = wx ∧ ∃ (k : Nat) (t : ByteArray), gf = 10 - k ∧ k ≤ 10 ∧ s35 = .int .i64 k ∧ s12 = .string t ∧ Hid (goFieldsP isSpaceR t = XS) ∧ t.size ≤ 5242880 + 4 * k)
  case atStart => exact ⟨rfl, 0, T, rfl, by omega, rfl, rfl, J1, by omega⟩
  case round =>
    obtain ⟨rfl, k, t, rfl, hk, rfl, rfl, hf, ht⟩ := hrel
    generalize a2.tmod 10 = m2 at *
    by_cases hlt : (k : Int) < m2
    · have nx := ahead_fields SEP.out hf.out
      have NX := Lib.hid nx
      clear nx
      go_wp2
      go_roundg (10 - (k + 1))
      case measure => omega
      case rel => exact ⟨rfl, k + 1, sp ++ t, rfl, by omega, by go_num, rfl, Lib.hid NX.out.1, by have := NX.out.2; omega⟩
    · have ht' : t.size ≤ 5242920 := by omega
      have hn : ¬ (k : Int) < m2 := hlt
      go_wp2_with fail
      go_loopg [12, 43] 10 (fun gf s12 s43 wx => u2 = wx ∧ ∃ (q : Nat) (r : ByteArray), gf = 10 - q ∧ q ≤ 10 ∧ s43 = .int .i64 q ∧ s12 = .string r ∧ Hid (goFieldsP isSpaceR r = XS) ∧ r.size ≤ 5242920 + 4 * q)
      case atStart => exact ⟨rfl, 0, t, rfl, by omega, rfl, rfl, hf, by omega⟩
      case round =>
        obtain ⟨rfl, q, r, rfl, hq, rfl, rfl, hg, hr⟩ := hrel
        generalize a3.tmod 10 = m3 at *
        by_cases hlt3 : (q : Int) < m3
        · have nx := behind_fields SEP.out hg.out
          have NX := Lib.hid nx
          clear nx
          go_wp2
          go_roundg (10 - (q + 1))
          case measure => omega
          case rel => exact ⟨rfl, q + 1, r ++ sp, rfl, by omega, by go_num, rfl, Lib.hid NX.out.1, by have := NX.out.2; omega⟩
        · have con5 := implFields r u2 (by omega) (TS.out.below k2)
          rw [hg.out] at con5
          go_wp2_with fail
          refine con5.mono ?_
          rintro e u5 ⟨v5, rfl, hr5, hb5⟩
          have hr2' := R2.out.later hb5
          have k5 := k2.trans (hb5.mono k2.size)
          go_wp2_with fail
          refine (equal_same hr5 hr2' hlx).mono ?_
          rintro e u6 ⟨rfl, hb6⟩
          have k6 := k5.trans (hb6.mono k5.size)
          have hr2'' := hr2'.later hb6
          clear con5 hr5 hb5 hb6 hr2' k5
          rcases Nat.eq_zero_or_pos XS.length with h0 | hpos
          · have hE : XS = [] := List.eq_nil_of_length_eq_zero h0
            subst hE
            have R3 : Hid (StrRow u6 w.heap.size (.slice ra 0 rc) []) := Lib.hid hr2''
            clear hr2'' h0
            go_wp2_with fail
            refine (C4.out _).mono ?_
            rintro e u7 ⟨v7, rfl, hr7, hb7⟩
            have hr8 := R3.out.later hb7
            have k7 := k6.trans (hb7.mono k6.size)
            go_wp2_with fail
            refine (equal_same hr7 hr8 hlx).mono ?_
            rintro e u8 ⟨rfl, hb8⟩
            have k8 := k7.trans (hb8.mono k7.size)
            clear hr7 hr8 hb7 hb8
            go_wp2
            go_ret
            exact ⟨rfl, k8⟩
          · have hp1 : (0 : Int) < (XS.length : Int) := by omega
            clear hr2''
            go_wp2
            go_ret
            exact ⟨rfl, k6⟩
end Go.Proofs.YtchkjdopoanjdaaDoor.strs
