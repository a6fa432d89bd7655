/-
  slices.Grow of a nil []string (the shelf's contract, laid at this translation), slices.Concat of two []string values: a new slice of the strings of both. And impl.Fields once more: what it returns is not nil.
-/
import Derived.Test.YtchkjdopoanjdaaDoorHNPlain
import Derived.Shelf.Spec.SlicesGrow
import Derived.RangeFuncRecord
namespace Go.Proofs.YtchkjdopoanjdaaDoor.strs
open Go.Shelf Go.RowKit Go.Lib base sets iters plain
set_option linter.unusedVariables false

def laysGrow_ren : Go.Shelf.Ren := ⟨fun | 4 => 47 | n => n, fun | 0 => 0 | 3 => 3 | 4 => 4 | 9 => 9 | 20 => 20 | 22 => 25 | 25 => 9 | n => n, fun n => n⟩
theorem laysGrow : Go.Proofs.Lays8.n4 Tryd.prog laysGrow_ren := {
  mixed := by kernel_rfl
  f4 := ⟨Tryd.f47.name, by kernel_rfl, Tryd.func47.trans (congrArg some (by kernel_rfl))⟩
  t0 := Tryd.underlying0
  a0 := Tryd.isAgg0
  z0 := Tryd.sizeOf0
  v0 := Tryd.zeroValue0
  t3 := Tryd.underlying3
  a3 := Tryd.isAgg3
  z3 := Tryd.sizeOf3
  v3 := Tryd.zeroValue3
  t4 := Tryd.underlying4
  a4 := Tryd.isAgg4
  z4 := Tryd.sizeOf4
  v4 := Tryd.zeroValue4
  t9 := Tryd.underlying9
  a9 := Tryd.isAgg9
  z9 := Tryd.sizeOf9
  v9 := Tryd.zeroValue9
  t20 := Tryd.underlying20
  a20 := Tryd.isAgg20
  z20 := Tryd.sizeOf20
  v20 := Tryd.zeroValue20
  t22 := Tryd.underlying25
  a22 := Tryd.isAgg25
  z22 := Tryd.sizeOf25
  v22 := Tryd.zeroValue25 }

theorem own_new (w : World) (cur : Array Value) (cap : Nat) (hm : cap ≤ maxLen) (hs : cur.size = cap) : StrRow (w.drew.alloc (.cells cur 9)) w.heap.size (.slice (some ⟨w.heap.size, 0, none⟩) 0 cap) [] :=
  ⟨by simp, .inr ⟨w.heap.size, cap, cur, rfl, Nat.le_refl _, World.alloc_heap_new w.drew _, Nat.zero_le _, hm, by omega, by simp⟩⟩
theorem grow_nil (n : Nat) (hn : n ≤ 16777216) (w : World) : Calls Tryd.prog 47 #[.slice none 0 0, .int .i64 n] w (StrPost w []) := by
  obtain ⟨i0, hi, hz0, hz1, hz2⟩ := info_parts infoS
  rcases Nat.eq_zero_or_pos n with rfl | hpos
  · refine (Any8.slices_Grow_room laysGrow none 0 0 0 w (Nat.le_refl _) (by omega) (by omega) (by omega)).mono fun e w' ⟨he, hw⟩ => ?_
    subst hw
    exact ⟨_, he, StrRow.empty _ _, Below.refl _ _⟩
  · refine (Any8.slices_Grow_grow laysGrow i0 (.string ⟨#[]⟩) hi hz0 (by omega) none 0 0 n [] w (Nat.le_refl _) (by omega) (by rw [hz2]; omega) (by omega) (by simp) (fun _ => rfl) (fun a h => by cases h)).mono fun e w' ⟨he, hw⟩ => ?_
    subst hw
    have hg := grownCap_ge w (0 + n) 0 (laysGrow_ren.t 25)
    have hm := grownCap_le_maxLen w (0 + n) 0 (laysGrow_ren.t 25) (by unfold maxLen; omega)
    refine ⟨_, he, own_new w _ _ hm ?_, (Below.refl _ w).drew.alloc (Nat.le_refl _) _⟩
    rw [Array.size_append, Array.size_append, size_zeroCells, size_zeroCells, show (Value.string ⟨#[]⟩).cells.size = 1 from rfl]
    generalize grownCap w (0 + n) 0 (laysGrow_ren.t 25) = cap at *
    simp
    omega

def StrSome (w : World) (xs : List ByteArray) (e : Ending) (w' : World) : Prop := ∃ A, e = .returned (.slice (some ⟨A, 0, none⟩) xs.length xs.length) ∧ StrRow w' w.heap.size (.slice (some ⟨A, 0, none⟩) xs.length xs.length) xs ∧ Below w.heap.size w w'
theorem implFields_some (s : ByteArray) (w : World) (hs : s.size ≤ 4000000000) (hT : SpTab w) : Calls Tryd.prog 17 #[.string s] w (StrSome w (goFieldsP isSpaceR s)) := by
  have con := Tryd.strings_Fields_any s w (by omega) hT.1 hT.2
  rw [← goFields_values, ← goFields_count] at con
  clear hT
  generalize goFieldsP isSpaceR s = XS at *
  go_enter Tryd.func17, Tryd.ntmps17
  go_wp2_with fail
  refine con.mono ?_
  rintro e w' ⟨A, rfl, hA, hrow, hb⟩
  have P : StrSome w XS (.returned (.slice (some ⟨A, 0, none⟩) XS.length XS.length)) w' := ⟨_, rfl, hrow, hb⟩
  clear hA hrow hb con
  generalize XS.length = n at P ⊢
  go_wp2
  go_ret
  exact P

theorem row_more {w1 : World} {B : Nat} {v' : Value} {acc xs : List ByteArray} (h : w1.ownsRow B 9 1 v' (acc.length + xs.length) (acc.map Value.string ++ xs.map Value.string)) : StrRow w1 B v' (acc ++ xs) := by
  unfold StrRow
  rw [List.length_append, List.map_append]
  exact h
theorem src_cells {w w' : World} {B A : Nat} {xs : List ByteArray} (h : StrRow w B (.slice (some ⟨A, 0, none⟩) xs.length xs.length) xs) (hb : Below w.heap.size w w') : ∀ j u, (xs.map Value.string)[j]? = some u → w'.cell? ((⟨A, 0, none⟩ : Addr).add j) = some u :=
  World.ownsRow.cells (h.later hb) rfl
theorem src_one (xs : List ByteArray) : ∀ u ∈ xs.map Value.string, u.oneCell' = true := fun u hu => by
  obtain ⟨x, _, rfl⟩ := List.mem_map.1 hu
  rfl

set_option maxHeartbeats 4000000 in
theorem concat_two {w : World} {b A1 A2 B1 B2 : Nat} {xs ys : List ByteArray} (h1 : StrRow w B1 (.slice (some ⟨A1, 0, none⟩) xs.length xs.length) xs) (h2 : StrRow w B2 (.slice (some ⟨A2, 0, none⟩) ys.length ys.length) ys)
    (hc0 : w.cell? ⟨b, 0, none⟩ = some (.slice (some ⟨A1, 0, none⟩) xs.length xs.length)) (hc1 : w.cell? ⟨b, 1, none⟩ = some (.slice (some ⟨A2, 0, none⟩) ys.length ys.length)) (l1 : xs.length ≤ 4194304) (l2 : ys.length ≤ 4194304) :
    Calls Tryd.prog 32 #[.slice (some ⟨b, 0, none⟩) 2 2] w (StrPost w (xs ++ ys)) := by
  obtain ⟨i0, hi, hz0, hz1, hz2⟩ := info_parts infoS
  have con := grow_nil (xs.length + ys.length) (by omega) w
  have S1 : Hid (∀ V, Below w.heap.size w V → ∀ j u, (xs.map Value.string)[j]? = some u → V.cell? ((⟨A1, 0, none⟩ : Addr).add j) = some u) := fun V hV => src_cells h1 hV
  have S2 : Hid (∀ V, Below w.heap.size w V → ∀ j u, (ys.map Value.string)[j]? = some u → V.cell? ((⟨A2, 0, none⟩ : Addr).add j) = some u) := fun V hV => src_cells h2 hV
  have K0 : Hid (∀ V, Below w.heap.size w V → V.cell? ⟨b, 0, none⟩ = some (.slice (some ⟨A1, 0, none⟩) xs.length xs.length)) := fun V hV => (hV.cell (p := ⟨b, 0, none⟩) (World.block_lt_of_cell? w _ hc0)).trans hc0
  have K1 : Hid (∀ V, Below w.heap.size w V → V.cell? ⟨b, 1, none⟩ = some (.slice (some ⟨A2, 0, none⟩) ys.length ys.length)) := fun V hV => (hV.cell (p := ⟨b, 1, none⟩) (World.block_lt_of_cell? w _ hc1)).trans hc1
  rw [show (((xs.length + ys.length : Nat)) : Int) = (xs.length : Int) + (ys.length : Int) by omega] at con
  clear h1 h2
  go_enter Tryd.func32, Tryd.ntmps32
  go_wp2
  go_loop [3, 11] (fun s3 s11 => (s11 = .int .i64 0 ∧ s3 = .int .i64 0) ∨ (s11 = .int .i64 1 ∧ s3 = .int .i64 xs.length) ∨ (s11 = .int .i64 2 ∧ s3 = .int .i64 ((xs.length : Int) + (ys.length : Int)))) (fun _ i => 2 - (intOf i).toNat)
  case atStart => exact .inl ⟨rfl, rfl⟩
  case round =>
    rcases hrel with ⟨rfl, rfl⟩ | ⟨rfl, rfl⟩ | ⟨rfl, rfl⟩
    · go_wp2
      go_round
      case rel => exact .inr (.inl ⟨rfl, rfl⟩)
      case measure => simp [intOf]
    · go_wp2
      go_round
      case rel => exact .inr (.inr ⟨rfl, rfl⟩)
      case measure => simp [intOf]
    · clear hc0 hc1
      go_wp2_with fail
      refine con.mono ?_
      rintro e u1 ⟨v1, rfl, hr1, hb1⟩
      clear con
      go_wp2_with fail
      go_loopg [6, 27] 2 (fun gf s6 s27 wx => Below w.heap.size w wx ∧ ((gf = 2 ∧ s27 = .int .i64 0 ∧ StrRow wx w.heap.size s6 []) ∨ (gf = 1 ∧ s27 = .int .i64 1 ∧ StrRow wx w.heap.size s6 xs) ∨ (gf = 0 ∧ s27 = .int .i64 2 ∧ StrRow wx w.heap.size s6 (xs ++ ys))))
      case atStart => exact ⟨hb1, .inl ⟨rfl, rfl, hr1⟩⟩
      case round =>
        obtain ⟨hbr, (⟨rfl, rfl, hrow⟩ | ⟨rfl, rfl, hrow⟩ | ⟨rfl, rfl, hrow⟩)⟩ := hrel
        · have k0 := K0.out wr hbr
          have hrow' : wr.ownsRow w.heap.size 9 1 u6 0 [] := hrow
          have s1 := S1.out wr hbr
          have hz := hbr.size
          go_wp2_with (at_builtin; refine wpList_append_own _ rfl _ _ 25 rfl w.heap.size 9 i0 (.string ⟨#[]⟩) 1 16 Tryd.underlying25 hi hz0 hz1 hz2 rfl (by decide) _ _ _ rfl hrow' ⟨A1, 0, none⟩ xs.length xs.length (xs.map Value.string) rfl (by simp) s1 (src_one xs) (by unfold maxLen; omega) (by omega) hz ?_; intro v' w1 hown' hgrow _)
          have hB1 : Below w.heap.size w w1 := hbr.grown hgrow hz (fun j hj => (World.ownsRow.lt hrow' j hj).1)
          have hr2 : StrRow w1 w.heap.size v' ([] ++ xs) := row_more (by simpa using hown')
          rw [List.nil_append] at hr2
          clear hown' hgrow hrow' hrow s1 k0
          go_wp2
          go_roundg 1
          case measure => omega
          case rel => exact ⟨hB1, .inr (.inl ⟨rfl, rfl, hr2⟩)⟩
        · have k1 := K1.out wr hbr
          have hrow' : wr.ownsRow w.heap.size 9 1 u6 xs.length (xs.map Value.string) := hrow
          have s2 := S2.out wr hbr
          have hz := hbr.size
          go_wp2_with (at_builtin; refine wpList_append_own _ rfl _ _ 25 rfl w.heap.size 9 i0 (.string ⟨#[]⟩) 1 16 Tryd.underlying25 hi hz0 hz1 hz2 rfl (by decide) _ _ _ rfl hrow' ⟨A2, 0, none⟩ ys.length ys.length (ys.map Value.string) rfl (by simp) s2 (src_one ys) (by unfold maxLen; omega) (by omega) hz ?_; intro v' w1 hown' hgrow _)
          have hB1 : Below w.heap.size w w1 := hbr.grown hgrow hz (fun j hj => (World.ownsRow.lt hrow' j hj).1)
          have hr2 : StrRow w1 w.heap.size v' (xs ++ ys) := row_more hown'
          clear hown' hgrow hrow' hrow s2 k1
          go_wp2
          go_roundg 0
          case measure => omega
          case rel => exact ⟨hB1, .inr (.inr ⟨rfl, rfl, hr2⟩)⟩
        · have P : StrPost w (xs ++ ys) (.returned u6) wr := ⟨_, rfl, hrow, hbr⟩
          clear hrow hbr
          go_wp2
          go_ret
          exact P
end Go.Proofs.YtchkjdopoanjdaaDoor.strs
