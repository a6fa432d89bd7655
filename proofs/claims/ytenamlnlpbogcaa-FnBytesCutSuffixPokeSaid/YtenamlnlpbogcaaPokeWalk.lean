/-
  The walks of laws.FnBytesCutPrefixPoke and laws.FnBytesCutSuffixPoke: they return true, for all slices of at most 140737488351232 bytes, all places and all bytes.
-/
import Derived.Test.YtenamlnlpbogcaaPoke
import Derived.Deep.RegionHeld3
namespace Go.Proofs.Ytenamlnlpbogcaa.pokes
open Go.RowKit cuts base
set_option linter.unusedVariables false

theorem preS_size (xs ys : List Int) : (preS (strOfNums xs) (strOfNums ys)).size = xs.length - preK xs ys := by
  rw [← preS_nums, strOfNums_size, List.length_take, List.length_drop]; omega

theorem Src.below {w w' : World} {p : Option Addr} {n c : Nat} {xs : List Int} (h : Src w p n c xs) (hb : Below w.heap.size w w') : Src w' p n c xs := by
  rcases h with h | ⟨a, rfl, hx, hc⟩
  · exact .inl h
  · exact .inr ⟨a, rfl, hx, fun i hi => (hb.cell (p := a.add i) (cell_lt (hc i hi))).trans (hc i hi)⟩

set_option maxHeartbeats 2000000 in
set_option maxRecDepth 100000 in
theorem walkPrefix (a0 : Option Addr) (l0 c0 : Nat) (z0 : List Int) (a1 : Option Addr) (l1 c1 : Nat) (z1 : List Int) (a2 a3 : Int) (w : World) (w0 : IsRow .u8 w a0 l0 c0 z0) (m0 : c0 ≤ 140737488351232) (w1 : IsRow .u8 w a1 l1 c1 z1) (m1 : c1 ≤ 140737488351232)
    (w2 : (Lit.int .i64 a2).wf = true) (w3 : (Lit.int .u8 a3).wf = true) :
    Calls Try.prog 9 #[.slice a0 l0 c0, .slice a1 l1 c1, .int .i64 a2, .int .u8 a3] w fun e w' => e = .returned (.bool true) ∧ Below w.heap.size w w' := by
  obtain ⟨h1, hl0⟩ := src_of w0
  obtain ⟨h2, hl1⟩ := src_of w1
  generalize z0.take l0 = xs at *
  generalize z1.take l1 = ys at *
  have hx := h1.length
  have hy := h2.length
  have cv1 := conv h1.bytes hx c0
  have cv2 := conv h2.bytes hy c1
  have s1 : (strOfNums xs).size ≤ 9223372036854775807 := by rw [strOfNums_size]; omega
  have s2 : (strOfNums ys).size ≤ 9223372036854775807 := by rw [strOfNums_size]; omega
  have con1 := specCutPrefix (strOfNums xs) (strOfNums ys) w s1 s2
  have con2 := poked_any h1 (by omega) a2 a3
  have k3 : (strOfNums (poke xs a2 a3)).size = l0 := by rw [strOfNums_size, poke_length, hx]
  have con3 : ∀ W, Below w.heap.size w W → Calls Try.prog 19 #[.slice a0 l0 c0, .slice a1 l1 c1, .int .i64 a2, .int .u8 a3] W fun e w' => e = .returned (.string ((strOfNums (poke xs a2 a3)).extract (preK xs ys) (strOfNums (poke xs a2 a3)).size)) ∧ Below w.heap.size w w' := fun W hb => (implPokePrefix (h1.below hb) (h2.below hb) (by omega) a2 a3).mono fun e w' ⟨he, hb'⟩ => ⟨by rw [k3]; exact he, hb.trans (hb'.mono hb.size)⟩
  have k1 := preK_le xs ys
  have k2 := preS_size xs ys
  rw [hx] at k1 k2
  generalize preS (strOfNums xs) (strOfNums ys) = A at *
  generalize preB (strOfNums xs) (strOfNums ys) = Bo at *
  generalize strOfNums (poke xs a2 a3) = R at *
  generalize preK xs ys = k at *
  have k4 : k ≤ R.size := by omega
  have k5 : R.size ≤ 140737488351232 := by omega
  have K2 := Lib.hid k2
  have K3 := Lib.hid k3
  clear k2 k3 hx hy h1 h2 s1 s2 w0 w1 w2 w3
  go_enter Try.func9, Try.ntmps9
  go_wp2_with fail
  refine con1.mono ?_
  rintro e w1 ⟨rfl, rfl⟩
  go_wp2_with fail
  refine con2.mono ?_
  rintro e w1 ⟨rfl, hb1⟩
  have e1 : (R.size : Int) - A.size = k := by rw [K2.out, K3.out]; omega
  have e2 : IntKind.i64.wrap ((R.size : Int) - A.size) = k := by rw [e1, IntKind.wrap_i64]; omega
  have e3 : (0 : Int) ≤ k := by omega
  have e4 : (k : Int) ≤ R.size := by omega
  have e5 : ((R.extract k R.size).toList == (R.extract k R.size).toList) = true := by simp
  have con4 := Lib.hid con3
  clear e1 con1 con2 con3
  go_wp2_with fail
  go_region_held3 (fun W => Below w.heap.size w W) (first | exact hb1.drew | assumption) (first | (go_at_call 19; refine (con4.out _ ?_).mono ?_; assumption; rintro e w2 ⟨rfl, hb2⟩))
  go_wp2
  go_ret
  exact ⟨rfl, by assumption⟩

theorem sufS_size (xs ys : List Int) : (sufS (strOfNums xs) (strOfNums ys)).size = xs.length - sufK xs ys := by
  rw [← sufS_nums, strOfNums_size, List.length_take, List.drop_zero]; omega

set_option maxHeartbeats 2000000 in
set_option maxRecDepth 100000 in
theorem walkSuffix (a0 : Option Addr) (l0 c0 : Nat) (z0 : List Int) (a1 : Option Addr) (l1 c1 : Nat) (z1 : List Int) (a2 a3 : Int) (w : World) (w0 : IsRow .u8 w a0 l0 c0 z0) (m0 : c0 ≤ 140737488351232) (w1 : IsRow .u8 w a1 l1 c1 z1) (m1 : c1 ≤ 140737488351232)
    (w2 : (Lit.int .i64 a2).wf = true) (w3 : (Lit.int .u8 a3).wf = true) :
    Calls Try.prog 10 #[.slice a0 l0 c0, .slice a1 l1 c1, .int .i64 a2, .int .u8 a3] w fun e w' => e = .returned (.bool true) ∧ Below w.heap.size w w' := by
  obtain ⟨h1, hl0⟩ := src_of w0
  obtain ⟨h2, hl1⟩ := src_of w1
  generalize z0.take l0 = xs at *
  generalize z1.take l1 = ys at *
  have hx := h1.length
  have hy := h2.length
  have cv1 := conv h1.bytes hx c0
  have cv2 := conv h2.bytes hy c1
  have s1 : (strOfNums xs).size ≤ 9223372036854775807 := by rw [strOfNums_size]; omega
  have s2 : (strOfNums ys).size ≤ 9223372036854775807 := by rw [strOfNums_size]; omega
  have k1 := sufK_le xs ys
  have k2 := sufS_size xs ys
  have k3 : (strOfNums (poke xs a2 a3)).size = l0 := by rw [strOfNums_size, poke_length, hx]
  rw [hx] at k1 k2
  have con1 := specCutSuffix (strOfNums xs) (strOfNums ys) w s1 s2
  have con2 : ∀ W, Below w.heap.size w W → Calls Try.prog 18 #[.slice a0 l0 c0, .int .i64 a2, .int .u8 a3] W fun e w' => e = .returned (.string (strOfNums (poke xs a2 a3))) ∧ Below w.heap.size w w' := fun W hb => (poked_any (h1.below hb) (by omega) a2 a3).mono fun e w' ⟨he, hb'⟩ => ⟨he, hb.trans (hb'.mono hb.size)⟩
  have con3 : Calls Try.prog 20 #[.slice a0 l0 c0, .slice a1 l1 c1, .int .i64 a2, .int .u8 a3] w fun e w' => e = .returned (.string ((strOfNums (poke xs a2 a3)).extract 0 (sufS (strOfNums xs) (strOfNums ys)).size)) ∧ Below w.heap.size w w' := (implPokeSuffix h1 h2 (by omega) a2 a3).mono fun e w' ⟨he, hb'⟩ => ⟨by rw [k2]; exact he, hb'⟩
  have k4 : (sufS (strOfNums xs) (strOfNums ys)).size ≤ (strOfNums (poke xs a2 a3)).size := by omega
  have k5 : (strOfNums (poke xs a2 a3)).size ≤ 140737488351232 := by omega
  generalize sufS (strOfNums xs) (strOfNums ys) = A at *
  generalize sufB (strOfNums xs) (strOfNums ys) = Bo at *
  generalize strOfNums (poke xs a2 a3) = R at *
  clear k1 k2 k3 hx hy h1 h2 s1 s2 w0 w1 w2 w3
  go_enter Try.func10, Try.ntmps10
  go_wp2_with fail
  refine con1.mono ?_
  rintro e w1 ⟨rfl, rfl⟩
  go_wp2_with fail
  refine con3.mono ?_
  rintro e w1 ⟨rfl, hb1⟩
  go_wp2_with fail
  refine (con2 _ hb1).mono ?_
  rintro e w2 ⟨rfl, hb2⟩
  have e5 : ((R.extract 0 A.size).toList == (R.extract 0 A.size).toList) = true := by simp
  go_wp2
  go_ret
  exact ⟨rfl, hb2⟩
end Go.Proofs.Ytenamlnlpbogcaa.pokes
