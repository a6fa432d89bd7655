/-
  The walk of laws.FnFieldsHaveNoSpace: it returns true, for strings of at most 1048576 bytes, where the tables hold what their initialisers lay.
-/
import Derived.Test.YtchkjdopoanjdaaDoorHNPlain
import Derived.Test.YtchkjdopoanjdaaDoorEqual
namespace Go.Proofs.YtchkjdopoanjdaaDoor.strs
open Go.Shelf Go.RowKit Go.Lib base sets iters plain
set_option linter.unusedVariables false

set_option maxRecDepth 100000 in
set_option maxHeartbeats 4000000 in
theorem walkHN (a0 : ByteArray) (w : World) (m0 : a0.size ≤ 1048576) (tS : SpTab w) :
    Calls Tryd.prog 13 #[.string a0] w fun e w' => e = .returned (.bool true) ∧ Below w.heap.size w w' := by
  have hsum := sizes_all a0
  have hlen := fields_len isSpaceR a0
  have hlen2 := fields_len (clsP (spaces.take 25) true) a0
  have con1 := implFields a0 w (by omega) tS
  have P1 : Hid (∀ x ∈ goFieldsP isSpaceR a0, goFieldsP isSpaceR x = [x] ∧ x.data.toList ≠ [] ∧ Whole isSpaceR x.data.toList) := fun x hx => piece_of hx
  have TS := Lib.hid tS
  have C2 : Hid (∀ (wz W : World) (b : Nat), IsRow .i32 wz (some ⟨b, 0, none⟩) 25 25 spaces → Below wz.heap.size wz W → Calls Tryd.prog 22 #[.string a0, .agg #[.slice (some ⟨b, 0, none⟩) 25 25, .bool true]] W (StrPost W (goFieldsP (clsP (spaces.take 25) true) a0))) := fun wz W b h hb => implFieldsFunc (row_below h hb) true a0 (by omega)
  clear tS
  generalize goFieldsP isSpaceR a0 = XS at *
  generalize goFieldsP (clsP (spaces.take 25) true) a0 = ZS at *
  have HS := Lib.hid hsum
  have hx0 : sizes XS ≤ 1048576 := by omega
  have hz0 : sizes ZS ≤ 1048576 := by omega
  clear hsum
  go_enter Tryd.func13, Tryd.ntmps13
  go_wp2_with fail
  refine con1.mono ?_
  rintro e u1 ⟨v1, rfl, hr1, hb1⟩
  obtain ⟨ra, rc, rfl, hcells⟩ := cells_with hr1
  have HC := Lib.hid hcells
  clear con1 hcells hr1
  go_wp2_with fail
  go_loopg [4, 14] XS.length (fun gf s4 s14 wx => ∃ k : Nat, k + gf = XS.length ∧ s4 = .int .i64 (sizes (XS.take k) : Nat) ∧ s14 = .int .i64 k ∧ Below u1.heap.size u1 wx)
  case atStart => exact ⟨0, by omega, rfl, rfl, Below.refl _ _⟩
  case round =>
    obtain ⟨k, hkg, rfl, rfl, hbr⟩ := hrel
    cases gk with
    | succ gf =>
      have hlt : k < XS.length := by omega
      have hin : (k : Int) < (XS.length : Int) := by omega
      obtain ⟨g, rfl, hcl⟩ := HC.out wr hbr k hlt
      have hnx := sizes_next XS k hlt
      have hle := sizes_take XS (k + 1)
      obtain ⟨p1, p2, p3⟩ := P1.out _ (getD_mem hlt)
      generalize XS.getD k ByteArray.empty = x at *
      have kw : Below w.heap.size w wr := hb1.trans (hbr.mono hb1.size)
      have hxs : x.size ≤ 1048576 := by omega
      have con2 := implFields x wr (by omega) (TS.out.below kw)
      rw [p1] at con2
      have e1 : x.toList.isEmpty = false := by rw [Lib.toList_data]; simpa using p2
      have e2 : x.toList ≠ [] := by rw [Lib.toList_data]; exact p2
      have hsm : sizes (XS.take k) + x.size ≤ 1048576 := by omega
      have HN := Lib.hid hnx
      clear hnx hle p1 p2 p3
      generalize sizes (XS.take k) = sm at *
      go_wp2_with fail
      refine con2.mono ?_
      rintro e u2 ⟨v2, rfl, hr2, hb2⟩
      clear con2
      have al : Below u2.heap.size u2 (u2.alloc (.cells #[.string x] 9)) := below_box _ _
      go_wp2_with fail
      refine (equal_same (hr2.later al) (one_row u2 x) (by simp)).mono ?_
      rintro e u3 ⟨rfl, hb3⟩
      have k2 := hbr.trans (hb2.mono hbr.size)
      have k3 : Below u1.heap.size u1 u3 := (k2.trans (al.mono k2.size)).trans (hb3.mono (Nat.le_trans k2.size al.size))
      clear hr2 hb2 al hb3 k2 hcl
      go_wp2
      go_roundg gf
      case measure => omega
      case rel => exact ⟨k + 1, by omega, by rw [HN.out]; go_num, by go_num, k3⟩
    | zero =>
      obtain rfl : k = XS.length := by omega
      have hin : ¬ ((XS.length : Int) < (XS.length : Int)) := by omega
      rw [List.take_length]
      have kw : Below w.heap.size w wr := hb1.trans (hbr.mono hb1.size)
      have con3 := specSpaces wr
      generalize sizes XS = sx at *
      go_wp2_with fail
      refine con3.mono ?_
      rintro e u4 ⟨b, rfl, hrow, hb4⟩
      have con4 := C2.out u4 u4 b hrow (Below.refl _ _)
      have k4 : Below w.heap.size w u4 := kw.trans (hb4.mono kw.size)
      clear con3 hrow hb4 C2
      go_wp2_with fail
      refine con4.mono ?_
      rintro e u5 ⟨v5, rfl, hr5, hb5⟩
      obtain ⟨ta, tc, rfl, hcells5⟩ := cells_with hr5
      have HC5 := Lib.hid hcells5
      have k5 : Below w.heap.size w u5 := k4.trans (hb5.mono k4.size)
      clear con4 hcells5 hr5 hb5 k4
      go_wp2_with fail
      go_loopg [7, 38] ZS.length (fun gf s7 s38 wx => u5 = wx ∧ ∃ j : Nat, j + gf = ZS.length ∧ s7 = .int .i64 (sizes (ZS.take j) : Nat) ∧ s38 = .int .i64 j)
      case atStart => exact ⟨rfl, 0, by omega, rfl, rfl⟩
      case round =>
        obtain ⟨rfl, j, hjg, rfl, rfl⟩ := hrel
        cases gk with
        | succ gf =>
          have hlt : j < ZS.length := by omega
          have hin2 : (j : Int) < (ZS.length : Int) := by omega
          obtain ⟨g, rfl, hcl⟩ := HC5.out u5 (Below.refl _ _) j hlt
          have hnx := sizes_next ZS j hlt
          have hle := sizes_take ZS (j + 1)
          generalize ZS.getD j ByteArray.empty = x at *
          have hsm : sizes (ZS.take j) + x.size ≤ 1048576 := by omega
          have HN := Lib.hid hnx
          clear hnx hle
          generalize sizes (ZS.take j) = sm at *
          go_wp2
          go_roundg gf
          case measure => omega
          case rel => exact ⟨rfl, j + 1, by omega, by rw [HN.out]; go_num, by go_num⟩
        | zero =>
          obtain rfl : j = ZS.length := by omega
          have hin2 : ¬ ((ZS.length : Int) < (ZS.length : Int)) := by omega
          rw [List.take_length]
          have hfin : (((sx : Nat) : Int) + ((sizes ZS : Nat) : Int) == ((a0.size : Nat) : Int)) = true := by have := HS.out; simp; omega
          generalize sizes ZS = sz at *
          go_wp2
          go_ret
          exact ⟨rfl, k5⟩
end Go.Proofs.YtchkjdopoanjdaaDoor.strs
